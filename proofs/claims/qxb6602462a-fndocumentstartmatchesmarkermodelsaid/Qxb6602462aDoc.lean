/-
  THE WALKS of documentStart and of its model.
-/
import Derived.Test.Qxb6602462aNext
import Derived.Test.Qxb6602462aLaws
import Derived.Test.Qxb6602462aShelf
import Derived.Test.Qxb6602462aDocPlain
import Derived.Lib.SmallJoins
import Derived.Lib.SlBytesConst
namespace Go.Proofs.Qxb6602462a.Walks
open Go.RowKit Go.Proofs.Qxb6602462a.Plain Go.Proofs.Qxb6602462a.Laws
set_option linter.unusedVariables false
set_option linter.unusedSimpArgs false

theorem cut_cells {W : World} {b n p e : Nat} {zs : List Int} (hz : zs.length = n) (hen : e ≤ n) (hc : ∀ i, i < n → W.cell? ⟨b, i, none⟩ = some (.int .u8 (zs.getD i 0))) :
    ∀ i, i < e - p → W.cell? ⟨b, p + i, none⟩ = some (.int .u8 (((zs.drop p).take (e - p)).getD i 0)) := by
  intro i hi
  rw [hc _ (by omega)]
  simp [List.getD, List.getElem?_take, hi]

theorem dash_cells {W : World} {h : Nat} (h2 : ∀ j, j < 3 → W.cell? ⟨h, j, none⟩ = some (.int .u8 45)) : ∀ i, i < 3 → W.cell? ⟨h, 0 + i, none⟩ = some (.int .u8 (([45, 45, 45] : List Int).getD i 0)) := by
  intro i hi
  rw [Nat.zero_add, h2 i hi]
  rcases (by omega : i = 0 ∨ i = 1 ∨ i = 2) with h | h | h <;> subst h <;> rfl

theorem cut_no (b h n p e : Nat) (zs : List Int) (W : World) (hz : zs.length = n) (hb : Byt zs) (hpe : p ≤ e) (hen : e ≤ n)
    (hno : ¬ (p + 3 ≤ e ∧ zs.getD p 0 = 45 ∧ zs.getD (p + 1) 0 = 45 ∧ zs.getD (p + 2) 0 = 45))
    (hc : ∀ i, i < n → W.cell? ⟨b, i, none⟩ = some (.int .u8 (zs.getD i 0))) (h2 : ∀ j, j < 3 → W.cell? ⟨h, j, none⟩ = some (.int .u8 45)) :
    Calls Try.prog 27 #[.slice (some ⟨b, p, none⟩) (e - p) (n - p), .slice (some ⟨h, 0, none⟩) 3 3] W fun x w' => x = .returned (.tuple #[.slice (some ⟨b, p, none⟩) (e - p) (n - p), .bool false]) ∧ w' = W := by
  have hk := Try.bytes_CutPrefix b p (e - p) (n - p) h 0 3 3 ((zs.drop p).take (e - p)) [45, 45, 45] W (by simp; omega) rfl (by omega) (cut_cells hz hen hc) (dash_cells h2)
  rw [show Lib.bytesTrimPrefix b p (e - p) (n - p) ((zs.drop p).take (e - p)) [45, 45, 45] = .slice (some ⟨b, p, none⟩) (e - p) (n - p) by
    unfold Lib.bytesTrimPrefix; rw [has3_no hb hz hen hno]; rfl, has3_no hb hz hen hno] at hk
  exact hk

theorem cut_long (b h n p e : Nat) (zs : List Int) (W : World) (hz : zs.length = n) (hpe : p + 3 < e) (hen : e ≤ n)
    (h0 : zs.getD p 0 = 45) (h1 : zs.getD (p + 1) 0 = 45) (h3 : zs.getD (p + 2) 0 = 45)
    (hc : ∀ i, i < n → W.cell? ⟨b, i, none⟩ = some (.int .u8 (zs.getD i 0))) (h2 : ∀ j, j < 3 → W.cell? ⟨h, j, none⟩ = some (.int .u8 45)) :
    Calls Try.prog 27 #[.slice (some ⟨b, p, none⟩) (e - p) (n - p), .slice (some ⟨h, 0, none⟩) 3 3] W fun x w' => x = .returned (.tuple #[.slice (some ⟨b, p + 3, none⟩) (e - p - 3) (n - p - 3), .bool true]) ∧ w' = W := by
  have hk := Try.bytes_CutPrefix b p (e - p) (n - p) h 0 3 3 ((zs.drop p).take (e - p)) [45, 45, 45] W (by simp; omega) rfl (by omega) (cut_cells hz hen hc) (dash_cells h2)
  rw [show Lib.bytesTrimPrefix b p (e - p) (n - p) ((zs.drop p).take (e - p)) [45, 45, 45] = .slice (some ⟨b, p + 3, none⟩) (e - p - 3) (n - p - 3) by
    unfold Lib.bytesTrimPrefix; rw [has3_yes hz hen (by omega) h0 h1 h3]; simp [Lib.sliceFrom]; omega, has3_yes hz hen (by omega) h0 h1 h3] at hk
  exact hk

theorem cut_short (b h n p e : Nat) (zs : List Int) (W : World) (hz : zs.length = n) (hpe : e = p + 3) (hen : e ≤ n)
    (h0 : zs.getD p 0 = 45) (h1 : zs.getD (p + 1) 0 = 45) (h3 : zs.getD (p + 2) 0 = 45)
    (hc : ∀ i, i < n → W.cell? ⟨b, i, none⟩ = some (.int .u8 (zs.getD i 0))) (h2 : ∀ j, j < 3 → W.cell? ⟨h, j, none⟩ = some (.int .u8 45)) :
    Calls Try.prog 27 #[.slice (some ⟨b, p, none⟩) (e - p) (n - p), .slice (some ⟨h, 0, none⟩) 3 3] W fun x w' => (∃ ad, x = .returned (.tuple #[.slice ad 0 (n - p - 3), .bool true])) ∧ w' = W := by
  have hk := Try.bytes_CutPrefix b p (e - p) (n - p) h 0 3 3 ((zs.drop p).take (e - p)) [45, 45, 45] W (by simp; omega) rfl (by omega) (cut_cells hz hen hc) (dash_cells h2)
  rw [show Lib.bytesTrimPrefix b p (e - p) (n - p) ((zs.drop p).take (e - p)) [45, 45, 45] = .slice (if n - p = 3 then some ⟨b, p, none⟩ else some ⟨b, p + 3, none⟩) 0 (n - p - 3) by
    unfold Lib.bytesTrimPrefix; rw [has3_yes hz hen (by omega) h0 h1 h3]; subst hpe; simp [Lib.sliceFrom], has3_yes hz hen (by omega) h0 h1 h3] at hk
  exact hk.mono fun x w' ⟨h1, h2⟩ => ⟨⟨_, h1⟩, h2⟩

set_option maxHeartbeats 1000000 in
set_option maxRecDepth 100000 in
theorem docStart_any (b n : Nat) (zs : List Int) (w : World) (hn : n ≤ 1048576) (hz : zs.length = n) (hb : Byt zs) (hbw : b < w.heap.size)
    (hc : ∀ i, i < n → w.cell? ⟨b, i, none⟩ = some (.int .u8 (zs.getD i 0))) :
    Calls Try.prog 25 #[.slice (some ⟨b, 0, none⟩) n n] w fun x w' => ∃ r, x = .returned (.int .i64 r) ∧ Res zs n r ∧ Below w.heap.size w w' := by
  have HC : Hid (∀ i, i < n → w.cell? ⟨b, i, none⟩ = some (.int .u8 (zs.getD i 0))) := hc
  have HB : Hid (Byt zs) := hb
  have HZ : Hid (zs.length = n) := hz
  clear hc hb hz
  have kc := fun (W : World) (C : Array Value) (m c g : Nat) (hg : g = W.heap.size) => Joins.run_convert_bytes_const_at (P := Try.prog) W 24 5 C m c g hg Try.underlying24 Try.underlying5
  go_enter Try.func25, Try.ntmps25
  go_wp2
  go_loopw [4] (fun _ wr => ∃ p : Nat, At zs n p ∧ wr.cell? ⟨w.heap.size, 0, none⟩ = some (.slice (some ⟨b, 0, none⟩) n n) ∧ wr.cell? ⟨w.heap.size, 1, none⟩ = some (.int .i64 p) ∧ wr.frozen? ⟨w.heap.size, 1, none⟩ = false ∧ Below w.heap.size w wr)
    (fun _ wr => n - (intOf ((wr.cell? ⟨w.heap.size, 1, none⟩).getD undef)).toNat)
  case atStart => exact ⟨0, At.start _ _, by simp [go_sem], by simp [go_sem], by simp [go_sem], (Below.refl _ _).alloc (Nat.le_refl _) _⟩
  case round =>
    obtain ⟨p, hA, h0, h1, hf, hbl⟩ := hrel
    have HA : Hid (At zs n p) := hA
    have hpn : p ≤ n := hA.1
    clear hA
    have hsz : w.heap.size < wr.heap.size := World.block_lt_of_cell? wr _ h0
    have HCr : Hid (∀ i, i < n → wr.cell? ⟨b, i, none⟩ = some (.int .u8 (zs.getD i 0))) := fun i hi => by rw [hbl.cell (by exact hbw)]; exact HC.out i hi
    by_cases hp : p < n
    · obtain ⟨e, q, hL⟩ := line_exists zs n p hp
      have hlt := hL.lt
      have HL : Hid (Line zs n p e q) := hL
      clear hL
      have hcon := next_line w.heap.size b n p e q zs wr hn HZ.out HB.out HL.out h0 h1 hf HCr.out
      obtain ⟨W3, hW3⟩ : ∃ W3, W3 = (wr.setCell ⟨w.heap.size, 1, none⟩ (.int .i64 q)).alloc (.cells #[.int .u8 45, .int .u8 45, .int .u8 45] 5 (3, 4)) := ⟨_, rfl⟩
      have HWC : Hid (∀ i, i < n → W3.cell? ⟨b, i, none⟩ = some (.int .u8 (zs.getD i 0))) := by
        intro i hi
        subst hW3
        rw [World.cell?_alloc_lt _ _ _ (by simp; omega), World.cell?_setCell_other _ _ _ _ (fun h => by simp only [Addr.mk.injEq] at h; omega)]
        exact HCr.out i hi
      have HWD : Hid (∀ j, j < 3 → W3.cell? ⟨wr.heap.size, j, none⟩ = some (.int .u8 45)) := by
        intro j hj
        subst hW3
        rw [Joins.cell_alloc_mark_at _ _ _ _ _ _ (by simp)]
        rcases (by omega : j = 0 ∨ j = 1 ∨ j = 2) with h | h | h <;> subst h <;> rfl
      have HB3 : Hid (Below w.heap.size w W3) := by
        subst hW3
        exact (hbl.setCell (Nat.le_refl _) _).alloc (by simp; omega) _
      have HR0 : Hid (W3.cell? ⟨w.heap.size, 0, none⟩ = some (.slice (some ⟨b, 0, none⟩) n n)) := by
        subst hW3
        rw [Hid, World.cell?_alloc_lt _ _ _ (by simp; omega), World.cell?_setCell_other _ _ _ _ (by simp)]; exact h0
      have HR1 : Hid (W3.cell? ⟨w.heap.size, 1, none⟩ = some (.int .i64 q)) := by
        subst hW3
        rw [Hid, World.cell?_alloc_lt _ _ _ (by simp; omega)]
        simp [go_sem, h1]
      have HRF : Hid (W3.frozen? ⟨w.heap.size, 1, none⟩ = false) := by
        subst hW3
        rw [Hid, World.frozen?_alloc_past _ _ _ (by simp; omega), World.frozen?_setCell]; exact hf
      by_cases hpre : p + 3 ≤ e ∧ zs.getD p 0 = 45 ∧ zs.getD (p + 1) 0 = 45 ∧ zs.getD (p + 2) 0 = 45
      · obtain ⟨h3, ha, hb3, hc3⟩ := hpre
        have HYA : Hid (zs.getD p 0 = 45) := ha
        have HYB : Hid (zs.getD (p + 1) 0 = 45) := hb3
        have HYC : Hid (zs.getD (p + 2) 0 = 45) := hc3
        clear ha hb3 hc3
        by_cases he : e = p + 3
        · have hcut := cut_short b wr.heap.size n p e zs W3 HZ.out he (by omega) HYA.out HYB.out HYC.out HWC.out HWD.out
          have HE : Hid (e = p + 3) := he
          clear he
          subst hW3
          go_wp2_with (first
            | (go_at_call 24; refine hcon.mono ?_; rintro x w' ⟨rfl, rfl⟩)
            | (go_at_call 27; refine hcut.mono ?_; rintro x w' ⟨⟨ad, rfl⟩, rfl⟩))
          go_ret
          exact ⟨p, rfl, HA.out.found hp (mk_yes HA.out HL.out h3 HYA.out HYB.out HYC.out (.inl HE.out)), HB3.out⟩
        · have he3 : p + 3 < e := by omega
          clear he
          have hcut := cut_long b wr.heap.size n p e zs W3 HZ.out he3 (by omega) HYA.out HYB.out HYC.out HWC.out HWD.out
          have hl0 : (((e - p - 3 : Nat) : Int) == 0) = false := by simp; omega
          have hl1 : (0 : Int) < ((e - p - 3 : Nat) : Int) := by omega
          obtain ⟨z, hzz⟩ : ∃ z, z = zs.getD (p + 3) 0 := ⟨_, rfl⟩
          have hcz : W3.cell? ⟨b, p + 3, none⟩ = some (.int .u8 z) := by rw [hzz]; exact HWC.out _ (by omega)
          have HZZ : Hid (z = zs.getD (p + 3) 0) := hzz
          clear hzz
          by_cases hyes : z = 32 ∨ z = 9 ∨ z = 13
          · have hres := HA.out.found hp (mk_yes HA.out HL.out h3 HYA.out HYB.out HYC.out (.inr (by rw [← HZZ.out]; exact hyes)))
            have HRES : Hid (Res zs n (p : Int)) := hres
            clear hres HZZ
            subst hW3
            rcases hyes with rfl | rfl | rfl
            all_goals
              go_wp2_with (first
                | (go_at_call 24; refine hcon.mono ?_; rintro x w' ⟨rfl, rfl⟩)
                | (go_at_call 27; refine hcut.mono ?_; rintro x w' ⟨rfl, rfl⟩))
              go_ret
              exact ⟨p, rfl, HRES.out, HB3.out⟩
          · have hnm : ¬ Mk zs n p := mk_no2 HL.out he3 (by rw [← HZZ.out]; exact hyes)
            have hend : Hid (∃ p' : Nat, At zs n p' ∧ W3.cell? ⟨w.heap.size, 0, none⟩ = some (.slice (some ⟨b, 0, none⟩) n n) ∧ W3.cell? ⟨w.heap.size, 1, none⟩ = some (.int .i64 p') ∧ W3.frozen? ⟨w.heap.size, 1, none⟩ = false ∧ Below w.heap.size w W3) :=
              ⟨q, HA.out.step HL.out hnm, HR0.out, HR1.out, HRF.out, HB3.out⟩
            have hmea : Hid (n - (intOf ((W3.cell? ⟨w.heap.size, 1, none⟩).getD undef)).toNat < n - (intOf ((wr.cell? ⟨w.heap.size, 1, none⟩).getD undef)).toNat) := by
              rw [Hid, HR1.out, h1]; simp [intOf]; omega
            have z1 : (z == 32) = false := by simp; omega
            have z2 : (z == 9) = false := by simp; omega
            have z3 : (z == 13) = false := by simp; omega
            clear hyes hnm
            subst hW3
            go_wp2_with (first
              | (go_at_call 24; refine hcon.mono ?_; rintro x w' ⟨rfl, rfl⟩)
              | (go_at_call 27; refine hcut.mono ?_; rintro x w' ⟨rfl, rfl⟩))
            go_roundw
            case rel => exact hend.out
            case measure => exact hmea.out
      · have HNP : Hid (¬ (p + 3 ≤ e ∧ zs.getD p 0 = 45 ∧ zs.getD (p + 1) 0 = 45 ∧ zs.getD (p + 2) 0 = 45)) := hpre
        clear hpre
        have hcut := cut_no b wr.heap.size n p e zs W3 HZ.out HB.out (by omega) (by omega) HNP.out HWC.out HWD.out
        have hend : Hid (∃ p' : Nat, At zs n p' ∧ W3.cell? ⟨w.heap.size, 0, none⟩ = some (.slice (some ⟨b, 0, none⟩) n n) ∧ W3.cell? ⟨w.heap.size, 1, none⟩ = some (.int .i64 p') ∧ W3.frozen? ⟨w.heap.size, 1, none⟩ = false ∧ Below w.heap.size w W3) :=
          ⟨q, HA.out.step HL.out (mk_no HL.out HNP.out), HR0.out, HR1.out, HRF.out, HB3.out⟩
        have hmea : Hid (n - (intOf ((W3.cell? ⟨w.heap.size, 1, none⟩).getD undef)).toNat < n - (intOf ((wr.cell? ⟨w.heap.size, 1, none⟩).getD undef)).toNat) := by
          rw [Hid, HR1.out, h1]; simp [intOf]; omega
        subst hW3
        go_wp2_with (first
          | (go_at_call 24; refine hcon.mono ?_; rintro x w' ⟨rfl, rfl⟩)
          | (go_at_call 27; refine hcut.mono ?_; rintro x w' ⟨rfl, rfl⟩))
        go_roundw
        case rel => exact hend.out
        case measure => exact hmea.out
    · have hcon := next_out w.heap.size n n p (some ⟨b, 0, none⟩) wr hn (by omega) (by omega) h0 h1
      go_wp2_with (first
        | (go_at_call 24; refine hcon.mono ?_; rintro x w' ⟨rfl, rfl⟩))
      go_ret
      exact ⟨-1, rfl, HA.out.none hp, hbl⟩

end Go.Proofs.Qxb6602462a.Walks
