/-
  THE WALKS of bytes.IndexByte and of lineReader.next, ZZLineReaderNext.
-/
import Derived.Test.Qxb6602462aRows
import Derived.Test.Qxb6602462aPlain
import Derived.WalkKit
import Derived.WalkSpells
import Derived.WalkLawsBesides
import Derived.Deep.QuietTactic
import Derived.BigQuiet
import Derived.Lib.BytesEntry
import Derived.Laws.Externs
import Derived.Below
namespace Go.Proofs.Qxb6602462a.Walks
open Go.RowKit Go.Proofs.Qxb6602462a.Plain
set_option linter.unusedVariables false

set_option maxHeartbeats 400000 in
set_option maxRecDepth 100000 in
theorem indexByte_any (b o n c : Nat) (xs : List Int) (w : World) (hx : xs.length = n) (hc : ∀ i, i < n → w.cell? ⟨b, o + i, none⟩ = some (.int .u8 (xs.getD i 0))) :
    Calls Try.prog 26 #[.slice (some ⟨b, o, none⟩) n c, .int .u8 10] w fun e w' => e = .returned (.int .i64 (Lib.indexByte (Lib.bytesOf xs) 10)) ∧ w' = w := by
  go_enter Try.func26, Try.ntmps26
  go_wp2
  rw [run_callFunc_extern Try.func28 (by kernel_rfl) (by kernel_rfl) (by kernel_rfl) (e := Extern.BytealgIndexByte.indexByte) (by kernel_rfl), Lib.run_indexByteSlice w b o n c xs hx hc 10]
  simp only [Result.andThen]
  rw [Oper.upon_value]
  go_wp2
  go_ret
  exact ⟨rfl, rfl⟩

set_option maxHeartbeats 400000 in
theorem next_out (g n c p : Nat) (ad : Option Addr) (w : World) (hn : n ≤ 1048576) (hp : n ≤ p) (hp2 : p ≤ 1048576)
    (h0 : w.cell? ⟨g, 0, none⟩ = some (.slice ad n c)) (h1 : w.cell? ⟨g, 1, none⟩ = some (.int .i64 p)) :
    Calls Try.prog 24 #[.pointer (some ⟨g, 0, none⟩)] w fun e w' => e = .returned (.tuple #[.slice none 0 0, .int .i64 p, .bool false]) ∧ w' = w := by
  go_enter Try.func24, Try.ntmps24
  go_wp2
  go_ret3
  exact ⟨rfl, rfl⟩

set_option maxHeartbeats 400000 in
theorem next_line (g b n p e q : Nat) (zs : List Int) (w : World) (hn : n ≤ 1048576) (hz : zs.length = n) (hb : Byt zs) (hL : Line zs n p e q)
    (h0 : w.cell? ⟨g, 0, none⟩ = some (.slice (some ⟨b, 0, none⟩) n n)) (h1 : w.cell? ⟨g, 1, none⟩ = some (.int .i64 p)) (hf : w.frozen? ⟨g, 1, none⟩ = false)
    (hc : ∀ i, i < n → w.cell? ⟨b, i, none⟩ = some (.int .u8 (zs.getD i 0))) :
    Calls Try.prog 24 #[.pointer (some ⟨g, 0, none⟩)] w fun x w' => x = .returned (.tuple #[.slice (some ⟨b, p, none⟩) (e - p) (n - p), .int .i64 p, .bool true]) ∧ w' = w.setCell ⟨g, 1, none⟩ (.int .i64 q) := by
  have hlt := hL.lt
  have HC : Hid (∀ i, i < n → w.cell? ⟨b, i, none⟩ = some (.int .u8 (zs.getD i 0))) := hc
  clear hc
  have hix : ∀ W : World, (∀ i, i < n → W.cell? ⟨b, i, none⟩ = some (.int .u8 (zs.getD i 0))) → Calls Try.prog 26 #[.slice (some ⟨b, p, none⟩) (n - p) (n - p), .int .u8 10] W fun e w' => e = .returned (.int .i64 (Lib.indexByte (Lib.bytesOf (zs.drop p)) 10)) ∧ w' = W := by
    intro W hW
    refine indexByte_any b p (n - p) (n - p) (zs.drop p) W (by simp; omega) fun i hi => ?_
    rw [Lib.getD_drop]
    exact hW (p + i) (by omega)
  have hpn : ¬ ((n : Int) ≤ (p : Int)) := by omega
  by_cases he : e < n
  · obtain ⟨hi, rfl⟩ := hL.index_yes hz hb he
    rw [hi] at hix
    clear hi hL hb hz
    go_enter Try.func24, Try.ntmps24
    go_wp2_with (go_at_call 26; refine (hix _ HC.out).mono ?_; rintro e w' ⟨rfl, rfl⟩)
    go_ret3
    refine ⟨?_, by rw [show (p : Int) + ((e - p : Nat) : Int) + 1 = ((e + 1 : Nat) : Int) by omega]⟩
    show Ending.returned (.tuple #[.slice (some ⟨b, p, none⟩) (p + (e - p) - p) (n - p), .int .i64 p, .bool true]) = _
    rw [show p + (e - p) - p = e - p by omega]
  · obtain ⟨hi, rfl, rfl⟩ := hL.index_no hz hb he
    rw [hi] at hix
    clear hi hL hb
    go_enter Try.func24, Try.ntmps24
    go_wp2_with (go_at_call 26; refine (hix _ HC.out).mono ?_; rintro e w' ⟨rfl, rfl⟩)
    go_ret3
    exact ⟨rfl, rfl⟩

set_option maxHeartbeats 400000 in
theorem zznext_out (n c p : Nat) (ad : Option Addr) (w : World) (hn : n ≤ 1048576) (hp : n ≤ p) (hp2 : p ≤ 1048576) :
    Calls Try.prog 17 #[.slice ad n c, .int .i64 p] w fun e w' => e = .returned (.tuple #[.slice none 0 0, .int .i64 p, .bool false, .int .i64 p]) ∧ Below w.heap.size w w' := by
  go_enter Try.func17, Try.ntmps17
  go_wp2_with (go_at_call 24; refine (next_out _ n c p ad _ hn hp hp2 (by simp [go_sem]) (by simp [go_sem])).mono ?_; rintro e w' ⟨rfl, rfl⟩)
  go_quiet (fail)
  go_wp2
  exact bodyPost_ret (v := .tuple #[.slice none 0 0, .int .i64 p, .bool false, .int .i64 p]) (by simp [results, Try.results17, go_sem]) rfl ⟨rfl, below_drewN ((Below.refl _ _).alloc (Nat.le_refl _) _) _⟩

set_option maxHeartbeats 400000 in
theorem zznext_line (b n p e q : Nat) (zs : List Int) (w : World) (hn : n ≤ 1048576) (hz : zs.length = n) (hb : Byt zs) (hL : Line zs n p e q)
    (hbw : b < w.heap.size) (hc : ∀ i, i < n → w.cell? ⟨b, i, none⟩ = some (.int .u8 (zs.getD i 0))) :
    Calls Try.prog 17 #[.slice (some ⟨b, 0, none⟩) n n, .int .i64 p] w fun x w' => x = .returned (.tuple #[.slice (some ⟨b, p, none⟩) (e - p) (n - p), .int .i64 p, .bool true, .int .i64 q]) ∧ Below w.heap.size w w' := by
  have HC : Hid (∀ i, i < n → w.cell? ⟨b, i, none⟩ = some (.int .u8 (zs.getD i 0))) := hc
  clear hc
  have hcon := next_line w.heap.size b n p e q zs (w.alloc (.cells #[.slice (some ⟨b, 0, none⟩) n n, .int .i64 p] 36)) hn hz hb hL (by simp [go_sem]) (by simp [go_sem]) (by simp [go_sem])
    (fun i hi => by rw [World.cell?_alloc_lt _ _ _ (by exact hbw)]; exact HC.out i hi)
  go_enter Try.func17, Try.ntmps17
  go_wp2_with (go_at_call 24; refine hcon.mono ?_; rintro e w' ⟨rfl, rfl⟩)
  go_quiet (fail)
  go_wp2
  exact bodyPost_ret (v := .tuple #[.slice (some ⟨b, p, none⟩) (e - p) (n - p), .int .i64 p, .bool true, .int .i64 q]) (by simp [results, Try.results17, go_sem]) rfl ⟨rfl, below_drewN ((Below.refl _ _).alloc (Nat.le_refl _) _) _⟩

end Go.Proofs.Qxb6602462a.Walks
