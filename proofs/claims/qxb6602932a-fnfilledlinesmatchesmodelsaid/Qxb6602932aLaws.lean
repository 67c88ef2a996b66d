/-
  THE WALKS of the two laws: FnFilledLinesMatchesModel, FnFilledLinesBounds.
-/
import Derived.Test.Qxb6602932aLines
namespace Go.Proofs.Qxb6602932a.Walks
open Go.RowKit Go.Proofs.Qxb6602932a.Plain
set_option linter.unusedVariables false
set_option linter.unusedSimpArgs false

theorem clone_any (x : Addr) (n c : Nat) (zs : List Int) (w : World) (hn : n ≤ 1048576)
    (hcell : ∀ i, i < n → w.cell? (x.add i) = some (.int .u8 (zs.getD i 0))) :
    Calls Try.prog 10 #[.slice (some x) n c] w fun e w' => e = .returned (.slice (some ⟨w.heap.size, 0, none⟩) n n) ∧ (∀ i, i < n → w'.cell? ⟨w.heap.size, i, none⟩ = some (.int .u8 (zs.getD i 0))) ∧ w.heap.size < w'.heap.size ∧ Below w.heap.size w w' := by
  by_cases h0 : n = 0
  · subst h0
    exact (clone_empty x c w).mono fun e w' ⟨h1, h2, h3⟩ => ⟨h1, fun i hi => absurd hi (Nat.not_lt_zero _), h2, h3⟩
  · obtain ⟨b, off, spot⟩ := x
    have hspot : spot = none := by simpa [Addr.add] using World.cell?_spot (hcell 0 (by omega))
    subst hspot
    have hc : ∀ i, i < n → w.cell? ⟨b, off + i, none⟩ = some (.int .u8 (zs.getD i 0)) := fun i hi => by rw [← Go.WideShapes.add_plain]; exact hcell i hi
    exact clone_some b off n c zs w hn (World.block_lt_of_cell? w _ (hc 0 (by omega))) hc

theorem filled_nil (w : World) : Calls Try.prog 20 #[.slice none 0 0] w fun x w' => x = .returned (.int .i64 0) ∧ w' = w := by
  go_enter Try.func20, Try.ntmps20
  go_wp2
  go_loop [0, 3] (fun v c => v = .slice none 0 0 ∧ c = .int .i64 0) (fun _ _ => 0)
  case atStart => exact ⟨rfl, rfl⟩
  case round =>
    obtain ⟨rfl, rfl⟩ := hrel
    go_wp2
    go_ret
    exact ⟨rfl, rfl⟩

theorem model_nil (w : World) : Calls Try.prog 12 #[.slice none 0 0] w fun x w' => x = .returned (.int .i64 0) ∧ w' = w := by
  go_enter Try.func12, Try.ntmps12
  go_wp2
  go_loop [3, 4, 5, 6] (fun c s f i => c = .int .i64 0 ∧ s = .int .i64 0 ∧ f = .int .u8 0 ∧ i = .int .i64 0) (fun _ _ _ _ => 0)
  case atStart => exact ⟨rfl, rfl, rfl, rfl⟩
  case round =>
    obtain ⟨rfl, rfl, rfl, rfl⟩ := hrel
    go_wp2
    go_ret
    exact ⟨rfl, rfl⟩

theorem zzfilled_any (b n : Nat) (zs : List Int) (w : World) (hn : n ≤ 1048576) (hz : zs.length = n) (hb : Byt zs) (hbw : b < w.heap.size)
    (hc : ∀ i, i < n → w.cell? ⟨b, i, none⟩ = some (.int .u8 (zs.getD i 0))) :
    Calls Try.prog 11 #[.slice (some ⟨b, 0, none⟩) n n] w fun x w' => x = .returned (.int .i64 (cnt 0 0 zs : Nat)) ∧ Below w.heap.size w w' := by
  have hcon := filled_any b n zs w hn hz hb hbw hc
  clear hc hb hz
  go_enter Try.func11, Try.ntmps11
  go_wp2_with (go_at_call 20; refine hcon.mono ?_; rintro x w' ⟨rfl, hb'⟩)
  go_ret
  exact ⟨rfl, hb'⟩

theorem zzfilled_nil (w : World) : Calls Try.prog 11 #[.slice none 0 0] w fun x w' => x = .returned (.int .i64 0) ∧ w' = w := by
  go_enter Try.func11, Try.ntmps11
  go_wp2_with (go_at_call 20; refine (filled_nil _).mono ?_; rintro x w' ⟨rfl, rfl⟩)
  go_ret
  exact ⟨rfl, rfl⟩

/-! ### FnFilledLinesMatchesModel -/
theorem match_long (ad : Option Addr) (n c : Nat) (w : World) (hn : 1048576 < n) (hm : n ≤ 9223372036854775807) :
    Calls Try.prog 3 #[.slice ad n c] w fun e w' => e = .returned (.bool true) ∧ w' = w := by
  go_enter Try.func3, Try.ntmps3
  go_wp2
  go_ret
  exact ⟨rfl, rfl⟩

theorem match_nil (w : World) : Calls Try.prog 3 #[.slice none 0 0] w fun e w' => e = .returned (.bool true) ∧ Below w.heap.size w w' := by
  go_enter Try.func3, Try.ntmps3
  go_wp2_with (first
    | (go_at_call 10; refine (clone_nil _).mono ?_; rintro x w' ⟨rfl, rfl⟩)
    | (go_at_call 11; refine (zzfilled_nil _).mono ?_; rintro x w' ⟨rfl, rfl⟩)
    | (go_at_call 12; refine (model_nil _).mono ?_; rintro x w' ⟨rfl, rfl⟩)
    | (go_at_call 9; go_in))
  go_ret
  exact ⟨rfl, Below.refl _ _⟩

set_option maxHeartbeats 400000 in
theorem match_some (x : Addr) (n c : Nat) (zs : List Int) (w : World) (hn : n ≤ 1048576) (hz : zs.length = n) (hb : Byt zs)
    (hcell : ∀ i, i < n → w.cell? (x.add i) = some (.int .u8 (zs.getD i 0))) :
    Calls Try.prog 3 #[.slice (some x) n c] w fun e w' => e = .returned (.bool true) ∧ Below w.heap.size w w' := by
  have hcl := clone_any x n c zs w hn hcell
  have HB : Hid (Byt zs) := hb
  have HZ : Hid (zs.length = n) := hz
  clear hcell hb hz
  obtain ⟨T, hT⟩ : ∃ T, T = cnt 0 0 zs := ⟨_, rfl⟩
  have hf := fun W h1 h2 => zzfilled_any w.heap.size n zs W hn HZ.out HB.out h1 h2
  have hm := fun W h2 => model_any w.heap.size n zs W hn HZ.out h2
  rw [← hT] at hf hm
  clear hT
  go_enter Try.func3, Try.ntmps3
  go_wp2_with (first
    | (go_at_call 10; refine hcl.mono ?_; rintro x w1 ⟨rfl, hc1, hs1, hb1⟩; have HC1 : Hid (∀ i, i < n → w1.cell? ⟨w.heap.size, i, none⟩ = some (.int .u8 (zs.getD i 0))) := hc1; clear hc1)
    | (go_at_call 11; refine (hf _ hs1 HC1.out).mono ?_; rintro x w2 ⟨rfl, hb2⟩)
    | (go_at_call 12; refine (hm _ (fun i hi => (hb2.cell (by exact hs1)).trans (HC1.out i hi))).mono ?_; rintro x w3 ⟨rfl, rfl⟩)
    | (go_at_call 9; go_in))
  go_ret
  exact ⟨by simp, hb1.trans (hb2.mono (by omega))⟩

/-! ### FnFilledLinesBounds -/
theorem bounds_long (ad : Option Addr) (n c : Nat) (w : World) (hn : 1048576 < n) (hm : n ≤ 9223372036854775807) :
    Calls Try.prog 5 #[.slice ad n c] w fun e w' => e = .returned (.bool true) ∧ w' = w := by
  go_enter Try.func5, Try.ntmps5
  go_wp2
  go_ret
  exact ⟨rfl, rfl⟩

theorem bounds_nil (w : World) : Calls Try.prog 5 #[.slice none 0 0] w fun e w' => e = .returned (.bool true) ∧ Below w.heap.size w w' := by
  go_enter Try.func5, Try.ntmps5
  go_wp2_with (first
    | (go_at_call 10; refine (clone_nil _).mono ?_; rintro x w' ⟨rfl, rfl⟩)
    | (go_at_call 11; refine (zzfilled_nil _).mono ?_; rintro x w' ⟨rfl, rfl⟩)
    | (go_at_call 14; go_in))
  go_loop [4, 5, 6] (fun a b i => a = .int .i64 0 ∧ b = .bool false ∧ i = .int .i64 0) (fun _ _ _ => 0)
  case atStart => exact ⟨rfl, rfl, rfl⟩
  case round =>
    obtain ⟨rfl, rfl, rfl⟩ := hrel
    go_wp2
    go_ret
    exact ⟨rfl, Below.refl _ _⟩

/-- Neither a line feed nor a carriage return. -/
def othB (x : Int) : Bool := !(x == 10) && !(x == 13)

/-- What holds at k: nl line feeds met, 'o': another byte met. -/
def BI (zs : List Int) (k nl : Nat) (o : Bool) : Prop := nl = (zs.take k).countP (· == 10) ∧ o = (zs.take k).any othB

theorem BI.step {zs : List Int} {k nl : Nat} {o : Bool} (h : BI zs k nl o) (hk : k < zs.length) (nl' : Nat) (o' : Bool)
    (h1 : nl' = nl + if zs.getD k 0 = 10 then 1 else 0) (h2 : o' = (o || othB (zs.getD k 0))) : BI zs (k + 1) nl' o' := by
  obtain ⟨a, b⟩ := h
  have e : zs.take (k + 1) = zs.take k ++ [zs.getD k 0] := by rw [List.take_succ_eq_append_getElem hk]; simp [List.getD, List.getElem?_eq_getElem hk]
  refine ⟨?_, ?_⟩
  · rw [e, List.countP_append, h1, a]
    by_cases h : zs.getD k 0 = 10
    · rw [h]; simp
    · rw [if_neg h, List.countP_cons_of_neg (by simpa using h)]; simp
  · rw [e, List.any_append, h2, b]; simp

set_option maxHeartbeats 1000000 in
theorem bounds_some (x : Addr) (n c : Nat) (zs : List Int) (w : World) (hn : n ≤ 1048576) (hz : zs.length = n) (hb : Byt zs)
    (hcell : ∀ i, i < n → w.cell? (x.add i) = some (.int .u8 (zs.getD i 0))) :
    Calls Try.prog 5 #[.slice (some x) n c] w fun e w' => e = .returned (.bool true) ∧ Below w.heap.size w w' := by
  have hcl := clone_any x n c zs w hn hcell
  have HB : Hid (Byt zs) := hb
  have HZ : Hid (zs.length = n) := hz
  clear hcell hb hz
  obtain ⟨T, hT⟩ : ∃ T, T = cnt 0 0 zs := ⟨_, rfl⟩
  have hf := fun W h1 h2 => zzfilled_any w.heap.size n zs W hn HZ.out HB.out h1 h2
  rw [← hT] at hf
  have hT2 : 2 * T ≤ n + 1 := by have := cnt_half zs 0 0; rw [HZ.out] at this; rw [hT]; simpa using this
  have HT : Hid (T = cnt 0 0 zs) := hT
  clear hT
  go_enter Try.func5, Try.ntmps5
  go_wp2_with (first
    | (go_at_call 10; refine hcl.mono ?_; rintro x w1 ⟨rfl, hc1, hs1, hb1⟩; have HC1 : Hid (∀ i, i < n → w1.cell? ⟨w.heap.size, i, none⟩ = some (.int .u8 (zs.getD i 0))) := hc1; clear hc1)
    | (go_at_call 11; refine (hf _ hs1 HC1.out).mono ?_; rintro x w2 ⟨rfl, hb2⟩)
    | (go_at_call 14; go_in))
  have hB2 : Below w.heap.size w w2 := hb1.trans (hb2.mono (by omega))
  have HC2 : Hid (∀ i, i < n → w2.cell? ⟨w.heap.size, i, none⟩ = some (.int .u8 (zs.getD i 0))) := fun i hi => (hb2.cell (by exact hs1)).trans (HC1.out i hi)
  clear hcl hf hb1 hb2 hs1 HC1
  go_loop [4, 5, 6] (fun a o i => ∃ (k nl : Nat) (ot : Bool), a = .int .i64 nl ∧ o = .bool ot ∧ i = .int .i64 k ∧ k ≤ n ∧ nl ≤ k ∧ BI zs k nl ot) (fun _ _ i => n - (intOf i).toNat)
  case atStart => exact ⟨0, 0, false, rfl, rfl, rfl, Nat.zero_le _, Nat.le_refl _, by simp, by simp⟩
  case round =>
    obtain ⟨k, nl, ot, rfl, rfl, rfl, hk, hnl, hI⟩ := hrel
    have HI : Hid (BI zs k nl ot) := hI
    clear hI
    by_cases hlt : k < n
    · obtain ⟨z, hzz⟩ : ∃ z, z = zs.getD k 0 := ⟨_, rfl⟩
      have hcz : w2.cell? ⟨w.heap.size, k, none⟩ = some (.int .u8 z) := by rw [hzz]; exact HC2.out k hlt
      have HS : Hid (∀ (nl' : Nat) (o' : Bool), nl' = nl + (if z = 10 then 1 else 0) → o' = (ot || othB z) → BI zs (k + 1) nl' o') := fun nl' o' h1 h2 =>
        HI.out.step (by rw [HZ.out]; exact hlt) nl' o' (by rw [← hzz]; exact h1) (by rw [← hzz]; exact h2)
      clear hzz HI
      by_cases h10 : z = 10
      · subst h10
        have HN : Hid (BI zs (k + 1) (nl + 1) ot) := HS.out _ _ (by simp) (by simp [othB])
        clear HS
        go_wp2
        go_round
        case rel => exact ⟨k + 1, nl + 1, ot, by go_num, rfl, by go_num, by omega, by omega, HN.out⟩
        case measure => simp [intOf]; omega
      · have hb10 : (z == 10) = false := by simpa using h10
        by_cases h13 : z = 13
        · subst h13
          have HN : Hid (BI zs (k + 1) nl ot) := HS.out _ _ (by simp) (by simp [othB])
          clear HS h10
          go_wp2
          go_round
          case rel => exact ⟨k + 1, nl, ot, rfl, rfl, by go_num, by omega, by omega, HN.out⟩
          case measure => simp [intOf]; omega
        · have hb13 : (z != 13) = true := by simpa using h13
          have HN : Hid (BI zs (k + 1) nl true) := HS.out _ _ (by simp [h10]) (by simp [othB, h10, h13])
          clear HS h10 h13
          go_wp2
          go_round
          case rel => exact ⟨k + 1, nl, true, rfl, rfl, by go_num, by omega, by omega, HN.out⟩
          case measure => simp [intOf]; omega
    · have htake : zs.take k = zs := List.take_of_length_le (by have := HZ.out; omega)
      have hle : T ≤ nl + 1 := by
        have h1 := cnt_lines zs 0 0
        have h2 := HI.out.1
        rw [htake] at h2
        rw [HT.out, h2]; exact h1
      have hot : ot = false ∨ (ot = true ∧ ((T : Int) == 0) = false) := by
        have h2 := HI.out.2
        rw [htake] at h2
        cases ot with
        | false => exact .inl rfl
        | true =>
          refine .inr ⟨rfl, ?_⟩
          have h3 : ∃ y ∈ zs, othB y = true := by rw [← List.any_eq_true]; exact h2.symm
          obtain ⟨y, hy, h4⟩ := h3
          have h5 := cnt_some zs 0 0 (.inr ⟨y, hy, by simp [othB] at h4; exact h4⟩)
          rw [← HT.out] at h5
          simp; omega
      clear HI htake
      rcases hot with rfl | ⟨rfl, hT0⟩
      all_goals
        go_wp2
        go_ret
        exact ⟨by first | rfl | (simp; omega), hB2⟩

end Go.Proofs.Qxb6602932a.Walks
