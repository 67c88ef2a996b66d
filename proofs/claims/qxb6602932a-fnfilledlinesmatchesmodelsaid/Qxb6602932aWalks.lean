/-
  THE WALKS of zzb1Clone, filledLines, zzb1LineModel.
-/
import Derived.Test.Qxb6602932aRows
import Derived.Test.Qxb6602932aPlain
import Derived.Test.Qxb6602932aShelf
import Derived.WalkKit
import Derived.WalkSpells
import Derived.WalkLawsBesides
import Derived.Deep.QuietTactic
import Derived.BigQuiet
import Derived.Below
namespace Go.Proofs.Qxb6602932a.Walks
open Go.RowKit Go.Proofs.Qxb6602932a.Plain
set_option linter.unusedVariables false
set_option linter.unusedSimpArgs false

theorem info5 : (Try.prog.info? 5).map (fun i => (i.zero, i.size, i.bytes)) = some (some (.int .u8 0), 1, 1) := by kernel_rfl

/-- The row that the clone fills: its first k cells hold the text's first k bytes. -/
def Filled (zs : List Int) (n k : Nat) (L : List Value) : Prop := L.length = n ∧ ∀ j, j < k → L[j]? = some (.int .u8 (zs.getD j 0))

theorem Filled.step {zs : List Int} {n k : Nat} {L : List Value} (h : Filled zs n k L) (hk : k < n) : Filled zs n (k + 1) (L.set k (.int .u8 (zs.getD k 0))) := by
  refine ⟨by simpa using h.1, fun j hj => ?_⟩
  by_cases e : j = k
  · subst e; rw [List.getElem?_set_self (by rw [h.1]; exact hk)]
  · rw [List.getElem?_set_ne (fun h => e h.symm)]; exact h.2 j (by omega)

set_option maxHeartbeats 1000000 in
set_option maxRecDepth 100000 in
theorem clone_some (b off n c : Nat) (zs : List Int) (w : World) (hn : n ≤ 1048576) (hb : b < w.heap.size)
    (hcell : ∀ i, i < n → w.cell? ⟨b, off + i, none⟩ = some (.int .u8 (zs.getD i 0))) :
    Calls Try.prog 10 #[.slice (some ⟨b, off, none⟩) n c] w fun e w' => e = .returned (.slice (some ⟨w.heap.size, 0, none⟩) n n) ∧ (∀ i, i < n → w'.cell? ⟨w.heap.size, i, none⟩ = some (.int .u8 (zs.getD i 0))) ∧ w.heap.size < w'.heap.size ∧ Below w.heap.size w w' := by
  obtain ⟨i0, hi, hz0, hz1, hz2⟩ := info_parts info5
  have hq := fun (W : World) (a : Option Addr) (n c : Nat) => Lib.run_eql_slice_nil (P := Try.prog) W 22 5 a n c 0 0 Try.underlying22
  have HC : Hid (∀ i, i < n → w.cell? ⟨b, off + i, none⟩ = some (.int .u8 (zs.getD i 0))) := hcell
  clear hcell
  go_enter Try.func10, Try.ntmps10
  go_wp2_with (first
    | (at_make; refine wpList_make_full _ rfl (.tmp 8) (.tmp 8) 22 rfl w.heap.size 5 i0 (.int .u8 0) 1 Try.underlying22 hi hz0 hz1 _ _ _ _ n rfl rfl rfl rfl (by rw [hz2]; omega) (by unfold maxLen; omega) (Nat.le_refl _) ?_; intro w1 hown1 hgrow1))
  have hB1 : Below w.heap.size w w1 := (Below.refl _ w).grown hgrow1 (Nat.le_refl _) (by simp)
  have hL0 : Filled zs n 0 (madeCells (Value.int .u8 0).cells (n * 1)).toList := ⟨by simpa using hown1.1, fun j hj => by omega⟩
  go_loopw [4] (fun i wr => ∃ (k : Nat) (L : List Value), k ≤ n ∧ i = .int .i64 k ∧ Filled zs n k L ∧ wr.ownsRow w.heap.size 5 1 (.slice (some ⟨w.heap.size, 0, none⟩) n n) n L ∧ Below w.heap.size w wr) (fun i _ => n - (intOf i).toNat)
  case atStart => exact ⟨0, _, Nat.zero_le _, rfl, hL0, hown1, hB1⟩
  case round =>
    obtain ⟨k, L, hk, rfl, hF, hown, hbl⟩ := hrel
    clear hown1 hgrow1 hB1 hL0
    have HF : Hid (Filled zs n k L) := hF
    clear hF
    by_cases hlt : k < n
    · have c1 : wr.cell? ⟨b, off + k, none⟩ = some (.int .u8 (zs.getD k 0)) := (hbl.cell (by exact hb)).trans (HC.out k hlt)
      obtain ⟨v0, c2⟩ : ∃ v, wr.cell? ⟨w.heap.size, k, none⟩ = some v := by
        rw [hown.cellAt k (by omega)]
        have : k < L.length := by rw [HF.out.1]; exact hlt
        exact ⟨_, List.getElem?_eq_getElem this⟩
      have f2 : wr.frozen? ⟨w.heap.size, k, none⟩ = false := hown.frozenAt k
      have HS := hown.stored k (.int .u8 (zs.getD k 0))
      have HO : Hid ((wr.setCell ⟨w.heap.size, k, none⟩ (.int .u8 (zs.getD k 0))).ownsRow w.heap.size 5 1 (.slice (some ⟨w.heap.size, 0, none⟩) n n) n (L.set k (.int .u8 (zs.getD k 0)))) := HS.1
      have HB : Hid (Below w.heap.size w (wr.setCell ⟨w.heap.size, k, none⟩ (.int .u8 (zs.getD k 0)))) := hbl.setCell (Nat.le_refl _) _
      clear HS hown hbl
      go_wp2
      go_roundw
      case rel => exact ⟨k + 1, _, by omega, by go_num, HF.out.step hlt, by simpa using HO.out, by simpa using HB.out⟩
      case measure => simp [intOf]; omega
    · have hfin : ∀ i, i < n → wr.cell? ⟨w.heap.size, i, none⟩ = some (.int .u8 (zs.getD i 0)) := fun i hi => by
        rw [hown.cellAt i (by omega)]; exact HF.out.2 i (by omega)
      have HFI : Hid (∀ i, i < n → wr.cell? ⟨w.heap.size, i, none⟩ = some (.int .u8 (zs.getD i 0))) := hfin
      have hsz := (hown.lt _ rfl).2
      clear hfin hown
      go_wp2
      go_ret
      exact ⟨rfl, HFI.out, hsz, hbl⟩

set_option maxHeartbeats 400000 in
theorem clone_empty (x : Addr) (c : Nat) (w : World) :
    Calls Try.prog 10 #[.slice (some x) 0 c] w fun e w' => e = .returned (.slice (some ⟨w.heap.size, 0, none⟩) 0 0) ∧ w.heap.size < w'.heap.size ∧ Below w.heap.size w w' := by
  obtain ⟨i0, hi, hz0, hz1, hz2⟩ := info_parts info5
  have hq := fun (W : World) (a : Option Addr) (n c : Nat) => Lib.run_eql_slice_nil (P := Try.prog) W 22 5 a n c 0 0 Try.underlying22
  go_enter Try.func10, Try.ntmps10
  go_wp2_with (first
    | (at_make; refine wpList_make_full _ rfl (.tmp 8) (.tmp 8) 22 rfl w.heap.size 5 i0 (.int .u8 0) 1 Try.underlying22 hi hz0 hz1 _ _ _ _ 0 rfl rfl rfl rfl (by rw [hz2]; omega) (by unfold maxLen; omega) (Nat.le_refl _) ?_; intro w1 hown1 hgrow1))
  have hB1 : Below w.heap.size w w1 := (Below.refl _ w).grown hgrow1 (Nat.le_refl _) (by simp)
  have hsz := (hown1.lt _ rfl).2
  clear hown1 hgrow1
  go_loopw [4] (fun i wr => i = .int .i64 0 ∧ wr = w1) (fun _ _ => 0)
  case atStart => exact ⟨rfl, rfl⟩
  case round =>
    obtain ⟨rfl, rfl⟩ := hrel
    go_wp2
    go_ret
    exact ⟨rfl, hsz, hB1⟩

theorem clone_nil (w : World) : Calls Try.prog 10 #[.slice none 0 0] w fun e w' => e = .returned (.slice none 0 0) ∧ w' = w := by
  have hq := fun (W : World) (a : Option Addr) (n c : Nat) => Lib.run_eql_slice_nil (P := Try.prog) W 22 5 a n c 0 0 Try.underlying22
  go_enter Try.func10, Try.ntmps10
  go_wp2
  go_ret
  exact ⟨rfl, rfl⟩

end Go.Proofs.Qxb6602932a.Walks
