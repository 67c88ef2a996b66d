/-
  THE WALK of FnLineReaderLinesRejoinToText.
-/
import Derived.Test.Qxb6602462aNext
import Derived.Test.Qxb6602462aLaws
namespace Go.Proofs.Qxb6602462a.Walks
open Go.RowKit Go.Proofs.Qxb6602462a.Plain Go.Proofs.Qxb6602462a.Laws
set_option linter.unusedVariables false
set_option linter.unusedSimpArgs false

theorem info5 : (Try.prog.info? 5).map (fun i => (i.zero, i.size, i.bytes)) = some (some (.int .u8 0), 1, 1) := by kernel_rfl
theorem size5 : (Try.prog.info? 5).map (·.size) = some 1 := by kernel_rfl

/-- Longer than the law's bound: true at once. -/
theorem rejoin_long (ad : Option Addr) (n c : Nat) (w : World) (hn : 1048576 < n) (hm : n ≤ 9223372036854775807) :
    Calls Try.prog 7 #[.slice ad n c] w fun e w' => e = .returned (.bool true) ∧ w' = w := by
  go_enter Try.func7, Try.ntmps7
  go_wp2
  go_ret
  exact ⟨rfl, rfl⟩

set_option maxHeartbeats 1000000 in
set_option maxRecDepth 100000 in
theorem rejoin_some (x : Addr) (n c : Nat) (zs : List Int) (w : World) (hn : n ≤ 1048576) (hz : zs.length = n) (hb : Byt zs)
    (hcell : ∀ i, i < n → w.cell? (x.add i) = some (.int .u8 (zs.getD i 0))) :
    Calls Try.prog 7 #[.slice (some x) n c] w fun e w' => e = .returned (.bool true) ∧ Below w.heap.size w w' := by
  obtain ⟨i0, hi, hz0, hz1, hz2⟩ := info_parts info5
  have hq := fun (W : World) (a : Option Addr) (n c : Nat) => run_neq_slice_nil_any (P := Try.prog) W 24 5 a n c 0 0 Try.underlying24
  obtain ⟨news, hnews⟩ : ∃ news, news = zs.map (Value.int .u8) := ⟨_, rfl⟩
  have HN : Hid (news = zs.map (Value.int .u8)) := hnews
  have HLN : Hid (news.length = n) := by subst hnews; simpa [Hid] using hz
  have H1 : Hid (∀ v ∈ news, v.oneCell' = true) := by subst hnews; intro v hv; simp at hv; obtain ⟨_, _, rfl⟩ := hv; rfl
  clear hnews
  have HC : Hid (∀ i, i < n → w.cell? (x.add i) = some (.int .u8 (zs.getD i 0))) := hcell
  have HB : Hid (Byt zs) := hb
  have HZ : Hid (zs.length = n) := hz
  clear hcell hb hz
  go_enter Try.func7, Try.ntmps7
  go_wp2_with (first
    | (at_make; refine wpList_make_full _ rfl (.tmp 23) (.tmp 23) 24 rfl w.heap.size 5 i0 (.int .u8 0) 1 Try.underlying24 hi hz0 hz1 _ _ _ _ n rfl rfl rfl rfl (by rw [hz2]; omega) (by unfold maxLen; omega) (Nat.le_refl _) ?_; intro w1 hown1 hgrow1)
    | (at_make; refine wpList_make_own _ rfl _ (.tmp 31) 24 rfl 0 5 i0 (.int .u8 0) 1 Try.underlying24 hi hz0 hz1 _ _ _ (n + 1) rfl rfl (by omega) (by rw [hz2]; omega) (by unfold maxLen; omega) (Nat.zero_le _) ?_; intro w3 hown3 hgrow3)
    | (refine wpList_copy_full _ rfl (.tmp 25) (.tmp 26) 24 24 rfl 5 Try.underlying24 size5 w.heap.size w.heap.size n c x rfl rfl _ hown1 news HLN.out ?_ H1.out ?_; rotate_left; intro w2 hown2 hgrow2)
    | go_in)
  rotate_left
  · intro j v hv
    have hjl := (List.getElem?_eq_some_iff.1 hv).1
    rw [HLN.out] at hjl
    have h1 := HC.out j hjl
    rw [HN.out] at hv
    simp at hv
    obtain ⟨z, hz, rfl⟩ := hv
    have hd : zs.getD j 0 = z := by simp [List.getD, hz]
    rw [hd] at h1
    exact hgrow1.cell h1 (by simp)
  have hsz1 : w.heap.size < w1.heap.size := (hown1.lt _ rfl).2
  have hsz2 : w.heap.size < w2.heap.size := (hown2.lt _ rfl).2
  have hB2 : Below w.heap.size w w2 := ((Below.refl _ w).grown hgrow1 (Nat.le_refl _) (by simp)).grown hgrow2 (by omega) (by simp)
  have HD : Hid (∀ i, i < n → w2.cell? ⟨w.heap.size, i, none⟩ = some (.int .u8 (zs.getD i 0))) := by
    intro i hi
    rw [hown2.cellAt i (by omega), HN.out]
    have hil : i < zs.length := by rw [HZ.out]; exact hi
    simp [List.getD, List.getElem?_eq_getElem hil]
  have hB3 : Below w2.heap.size w2 w3 := (Below.refl _ w2).grown hgrow3 (Nat.le_refl _) (by simp)
  clear hown1 hgrow1 hown2 hgrow2 HC hgrow3 hsz1
  go_loopw [4, 5, 6, 7, 8] (fun r p l d s wr => ∃ k pp m : Nat, Inv zs n k pp m ∧ r = .slice (some ⟨w2.heap.size, 0, none⟩) m (n + 1) ∧ p = .int .i64 pp ∧ l = .int .i64 k ∧ d = .bool false ∧ s = .int .i64 k ∧
      wr.ownsRow 0 5 1 (.slice (some ⟨w2.heap.size, 0, none⟩) m (n + 1)) m ((zs.take m).map (Value.int .u8)) ∧ Below w2.heap.size w2 wr)
    (fun _ p _ _ _ _ => n - (intOf p).toNat)
  case atStart => exact ⟨0, 0, 0, Inv.start _ _, rfl, rfl, rfl, rfl, rfl, by simpa using hown3, hB3⟩
  case round =>
    obtain ⟨k, pp, m, hI, rfl, rfl, rfl, rfl, rfl, hown, hbl⟩ := hrel
    have hkp : k ≤ pp ∧ pp ≤ n := ⟨hI.1, hI.2.1⟩
    have hszr : w2.heap.size < wr.heap.size := (hown.lt _ rfl).2
    clear hown3 hB3
    have HI : Hid (Inv zs n k pp m) := hI
    clear hI
    have HDr : Hid (∀ i, i < n → wr.cell? ⟨w.heap.size, i, none⟩ = some (.int .u8 (zs.getD i 0))) := fun i hi => by rw [hbl.cell (by exact hsz2)]; exact HD.out i hi
    by_cases hp : pp < n
    · obtain ⟨e, q, hL⟩ := line_exists zs n pp hp
      have hlt := hL.lt
      have HL : Hid (Line zs n pp e q) := hL
      clear hL
      have hcon := zznext_line w.heap.size n pp e q zs wr hn HZ.out HB.out HL.out (by omega) HDr.out
      obtain ⟨ln, hln⟩ : ∃ ln, ln = ((zs.drop pp).take (e - pp)).map (Value.int .u8) := ⟨_, rfl⟩
      have HLN2 : Hid (ln.length = (e - pp) * 1) := by
        subst hln; have := HZ.out; simp [Hid]; omega
      have HL1 : Hid (∀ v ∈ ln, v.oneCell' = true) := by subst hln; exact ints_oneCell _ _
      have HLC : Hid (∀ W : World, (∀ i, i < n → W.cell? ⟨w.heap.size, i, none⟩ = some (.int .u8 (zs.getD i 0))) → ∀ j u, ln[j]? = some u → W.cell? ((⟨w.heap.size, pp, none⟩ : Addr).add j) = some u) := by
        intro W hW j u hu
        subst hln
        have hjl := (List.getElem?_eq_some_iff.1 hu).1
        have hzl := HZ.out
        simp at hjl
        rw [show (⟨w.heap.size, pp, none⟩ : Addr).add j = ⟨w.heap.size, pp + j, none⟩ by unfold Addr.add; split <;> simp_all]
        rw [hW _ (by omega)]
        simp [List.getElem?_take, show j < e - pp by omega] at hu
        obtain ⟨z, hz, rfl⟩ := hu
        simp [List.getD, hz]
      have HLE : Hid (ln = ((zs.drop pp).take (e - pp)).map (Value.int .u8)) := hln
      clear hln
      by_cases hk : k = 0
      · subst hk
        obtain ⟨rfl, rfl⟩ := HI.out.first
        go_wp2_with (first
          | (go_at_call 17; refine hcon.mono ?_; rintro x w' ⟨rfl, hb'⟩; have hownx := owns_below hown hb'; have HDx : Hid (∀ i, i < n → w'.cell? ⟨w.heap.size, i, none⟩ = some (.int .u8 (zs.getD i 0))) := fun i hi => (hb'.cell (by show w.heap.size < _; omega)).trans (HDr.out i hi))
          | (at_builtin; refine wpList_append_fits _ rfl (.tmp 58) (.tmp 59) 24 rfl 0 5 i0 1 Try.underlying24 hi hz1 w2.heap.size 0 (n + 1) _ rfl hownx ⟨w.heap.size, 0, none⟩ (e - 0) (n - 0) ln rfl HLN2.out (HLC.out _ HDx.out) HL1.out (by omega) ?_; intro w4 hown4 hgrow4))
        have R : w4.ownsRow 0 5 1 (.slice (some ⟨w2.heap.size, 0, none⟩) e (n + 1)) e ((zs.take e).map (Value.int .u8)) := by
          have h4 := hown4
          rw [HLE.out] at h4
          simpa using h4
        have hb4 : Below w2.heap.size w2 w4 := (hbl.trans (hb'.mono (by omega))).grown hgrow4 (by have := hb'.size; omega) (by simp)
        go_roundw
        case rel => exact ⟨1, q, e, HI.out.step HL.out rfl, rfl, rfl, rfl, rfl, rfl, R, hb4⟩
        case measure => simp [intOf]; omega
      · obtain ⟨rfl, h10⟩ := HI.out.later (by omega) hp
        have hkz : 0 < k := by omega
        clear hk
        have H10 : Hid (zs.getD m 0 = 10) := h10
        clear h10
        go_wp2_with (first
          | (go_at_call 17; refine hcon.mono ?_; rintro x w' ⟨rfl, hb'⟩; have hownx := owns_below hown hb'; have HDx : Hid (∀ i, i < n → w'.cell? ⟨w.heap.size, i, none⟩ = some (.int .u8 (zs.getD i 0))) := fun i hi => (hb'.cell (by show w.heap.size < _; omega)).trans (HDr.out i hi); have hsx := hb'.size)
          | (at_builtin; refine wpList_append_fits _ rfl (.tmp 51) (.tmp 52) 24 rfl 0 5 i0 1 Try.underlying24 hi hz1 w2.heap.size m (n + 1) _ rfl (hownx.alloc _) ⟨w'.heap.size, 0, none⟩ 1 1 [.int .u8 10] rfl rfl (cell_one_new _ _ _) (by simp [Value.oneCell']) (by omega) ?_; intro w4 hown4 hgrow4; have HD4 : Hid (∀ i, i < n → w4.cell? ⟨w.heap.size, i, none⟩ = some (.int .u8 (zs.getD i 0))) := fun i hi => hgrow4.cell (by rw [World.cell?_alloc_lt _ _ _ (by show w.heap.size < _; omega)]; exact HDx.out i hi) (by simp; omega))
          | (at_builtin; refine wpList_append_fits _ rfl (.tmp 58) (.tmp 59) 24 rfl 0 5 i0 1 Try.underlying24 hi hz1 w2.heap.size (m + 1) (n + 1) _ rfl hown4 ⟨w.heap.size, m + 1, none⟩ (e - (m + 1)) (n - (m + 1)) ln rfl HLN2.out (HLC.out _ HD4.out) HL1.out (by omega) ?_; intro w5 hown5 hgrow5))
        have R : w5.ownsRow 0 5 1 (.slice (some ⟨w2.heap.size, 0, none⟩) e (n + 1)) e ((zs.take e).map (Value.int .u8)) := by
          have h5 := hown5
          rw [HLE.out] at h5
          have e1 : (zs.take m).map (Value.int .u8) ++ [Value.int .u8 10] ++ ((zs.drop (m + 1)).take (e - (m + 1))).map (Value.int .u8) = (zs.take e).map (Value.int .u8) := by
            have t1 := take_snoc zs m (by have := HZ.out; omega)
            rw [H10.out] at t1
            rw [← take_line zs (m + 1) e (by omega), ← t1]
            simp only [List.map_append, List.map_cons, List.map_nil]
          rw [e1, show m + 1 + (e - (m + 1)) = e by omega] at h5
          exact h5
        have hb5 : Below w2.heap.size w2 w5 := ((((hbl.trans (hb'.mono (by omega))).alloc (by omega) _).grown hgrow4 (by simp; omega) (by simp))).grown hgrow5 (by have := hgrow4.size; simp at this; omega) (by simp)
        go_roundw
        case rel => exact ⟨k + 1, q, e, HI.out.step HL.out rfl, rfl, rfl, by go_num, rfl, by go_num, R, hb5⟩
        case measure => simp [intOf]; omega
    · obtain ⟨hpn, hfin⟩ := HI.out.fin hp
      subst hpn
      have hcon := zznext_out pp pp pp (some ⟨w.heap.size, 0, none⟩) wr hn (Nat.le_refl _) hn
      rcases hfin with ⟨hpz, hmz⟩ | ⟨hpm, h10⟩ | ⟨hpos, hmp, h10⟩
      · subst hpz; subst hmz
        go_wp2_with (go_at_call 17; refine hcon.mono ?_; rintro x w' ⟨rfl, hb'⟩; have hownx := owns_below hown hb')
        have HA : Hid (∀ i, i < 0 → w'.cell? ⟨w2.heap.size, i, none⟩ = some (.int .u8 (zs.getD i 0))) := fun i hi => absurd hi (Nat.not_lt_zero _)
        have HE : Hid (∀ i, i < 0 → w'.cell? ⟨w.heap.size, i, none⟩ = some (.int .u8 (zs.getD i 0))) := fun i hi => absurd hi (Nat.not_lt_zero _)
        have hbW : Below w.heap.size w w' := hB2.trans ((hbl.trans (hb'.mono (by omega))).mono (by omega))
        clear hownx hown hbl hb' hcon HDr HI HD hB2
        go_loopw [13] (fun i wz => ∃ j q : Nat, j ≤ 0 ∧ i = .int .i64 j ∧ wz = w'.drewN q) (fun i _ => 0 - (intOf i).toNat)
        case atStart => exact ⟨0, 0, Nat.zero_le _, rfl, rfl⟩
        case round =>
          obtain ⟨j, q, hj, rfl, rfl⟩ := hrel
          by_cases hlt : j < 0
          · exact absurd hlt (Nat.not_lt_zero _)
          · go_wp2
            go_ret
            exact ⟨rfl, below_drewN hbW _⟩
      · have h10' : wr.cell? ⟨w.heap.size, pp - 1, none⟩ = some (.int .u8 10) := by rw [show pp - 1 = m by omega, HDr.out m (by omega), h10]
        have hm1 : pp ≤ m + 1 := by omega
        have hm2 : m + 1 ≤ pp := by omega
        have hpos : (0 : Int) < (pp : Int) := by omega
        have H10 : Hid (zs.getD m 0 = 10) := h10
        clear h10 hpm
        go_wp2_with (first
          | (go_at_call 17; refine hcon.mono ?_; rintro x w' ⟨rfl, hb'⟩; have hownx := owns_below hown hb'; have hsx := hb'.size; have hcx : w'.cell? ⟨w.heap.size, pp - 1, none⟩ = some (.int .u8 10) := (hb'.cell (by show w.heap.size < _; omega)).trans h10')
          | (at_builtin; refine wpList_append_fits _ rfl (.tmp 78) (.tmp 79) 24 rfl 0 5 i0 1 Try.underlying24 hi hz1 w2.heap.size m (pp + 1) _ rfl (hownx.alloc _) ⟨w'.heap.size, 0, none⟩ 1 1 [.int .u8 10] rfl rfl (cell_one_new _ _ _) (by simp [Value.oneCell']) (by omega) ?_; intro w4 hown4 hgrow4))
        have hb4 : Below w2.heap.size w2 w4 := ((hbl.trans (hb'.mono (by omega))).alloc (by omega) _).grown hgrow4 (by simp; omega) (by simp)
        have hx4 : w4.ownsRow 0 5 1 (.slice (some ⟨w2.heap.size, 0, none⟩) (m + 1) (pp + 1)) (m + 1) (zs.map (Value.int .u8)) := by
          have t1 := take_snoc zs m (by have := HZ.out; omega)
          rw [H10.out, show m + 1 = zs.length by have := HZ.out; omega, List.take_length] at t1
          rw [← t1]
          simpa using hown4
        have HA : Hid (∀ i, i < pp → w4.cell? ⟨w2.heap.size, i, none⟩ = some (.int .u8 (zs.getD i 0))) := fun i hi => by
                  rw [hx4.cellAt i (by omega)]
                  have hil : i < zs.length := by rw [HZ.out]; exact hi
                  simp [List.getD, List.getElem?_eq_getElem hil]
        have HE : Hid (∀ i, i < pp → w4.cell? ⟨w.heap.size, i, none⟩ = some (.int .u8 (zs.getD i 0))) := fun i hi => (hb4.cell (by exact hsz2)).trans (HD.out i hi)
        have hbW : Below w.heap.size w w4 := hB2.trans (hb4.mono (by omega))
        clear hown4 hgrow4 hownx hown hbl hb' hcon HDr HI HD hB2
        go_loopw [13] (fun i wz => ∃ j q : Nat, j ≤ pp ∧ i = .int .i64 j ∧ wz = w4.drewN q) (fun i _ => pp - (intOf i).toNat)
        case atStart => exact ⟨0, 0, Nat.zero_le _, rfl, rfl⟩
        case round =>
          obtain ⟨j, q, hj, rfl, rfl⟩ := hrel
          by_cases hlt : j < pp
          · have ca := HA.out j hlt
            have cb := HE.out j hlt
            go_wp2
            go_quiet (fail)
            go_wp2
            go_roundw
            case rel => exact ⟨j + 1, _, by omega, by go_num, rfl⟩
            case measure => simp [intOf]; omega
          · go_wp2
            go_ret
            exact ⟨rfl, below_drewN hbW _⟩
      · subst hmp
        obtain ⟨z, hzz⟩ : ∃ z, z = zs.getD (m - 1) 0 := ⟨_, rfl⟩
        rw [← hzz] at h10
        have h10' : wr.cell? ⟨w.heap.size, m - 1, none⟩ = some (.int .u8 z) := by rw [HDr.out (m - 1) (by omega), hzz]
        clear hzz
        have h10b : (z == 10) = false := by simpa using h10
        have hpos : (0 : Int) < (m : Int) := by omega
        clear h10
        go_wp2_with (first
          | (go_at_call 17; refine hcon.mono ?_; rintro x w' ⟨rfl, hb'⟩; have hownx := owns_below hown hb'; have hsx := hb'.size; have hcx : w'.cell? ⟨w.heap.size, m - 1, none⟩ = some (.int .u8 z) := (hb'.cell (by show w.heap.size < _; omega)).trans h10'))
        have hbx : Below w2.heap.size w2 w' := hbl.trans (hb'.mono (by omega))
        have HA : Hid (∀ i, i < m → w'.cell? ⟨w2.heap.size, i, none⟩ = some (.int .u8 (zs.getD i 0))) := fun i hi => by
                  rw [hownx.cellAt i (by omega)]
                  have hil : i < zs.length := by rw [HZ.out]; exact hi
                  simp [List.getD, List.getElem?_eq_getElem hil, hi]
        have HE : Hid (∀ i, i < m → w'.cell? ⟨w.heap.size, i, none⟩ = some (.int .u8 (zs.getD i 0))) := fun i hi => (hbx.cell (by exact hsz2)).trans (HD.out i hi)
        have hbW : Below w.heap.size w w' := hB2.trans (hbx.mono (by omega))
        clear hownx hown hbl hb' hcon HDr HI HD hB2
        go_loopw [13] (fun i wz => ∃ j q : Nat, j ≤ m ∧ i = .int .i64 j ∧ wz = w'.drewN q) (fun i _ => m - (intOf i).toNat)
        case atStart => exact ⟨0, 0, Nat.zero_le _, rfl, rfl⟩
        case round =>
          obtain ⟨j, q, hj, rfl, rfl⟩ := hrel
          by_cases hlt : j < m
          · have ca := HA.out j hlt
            have cb := HE.out j hlt
            go_wp2
            go_quiet (fail)
            go_wp2
            go_roundw
            case rel => exact ⟨j + 1, _, by omega, by go_num, rfl⟩
            case measure => simp [intOf]; omega
          · go_wp2
            go_ret
            exact ⟨rfl, below_drewN hbW _⟩


set_option maxHeartbeats 1000000 in
set_option maxRecDepth 100000 in
theorem rejoin_nil (w : World) :
    Calls Try.prog 7 #[.slice none 0 0] w fun e w' => e = .returned (.bool true) ∧ Below w.heap.size w w' := by
  obtain ⟨i0, hi, hz0, hz1, hz2⟩ := info_parts info5
  have hq := fun (W : World) (a : Option Addr) (n c : Nat) => run_neq_slice_nil_any (P := Try.prog) W 24 5 a n c 0 0 Try.underlying24
  have hcon := fun W => zznext_out 0 0 0 none W (by omega) (Nat.le_refl _) (by omega)
  go_enter Try.func7, Try.ntmps7
  go_wp2_with (first
    | (at_make; refine wpList_make_own _ rfl _ (.tmp 31) 24 rfl 0 5 i0 (.int .u8 0) 1 Try.underlying24 hi hz0 hz1 _ _ _ 1 rfl rfl (by omega) (by rw [hz2]; omega) (by unfold maxLen; omega) (Nat.zero_le _) ?_; intro w3 hown3 hgrow3)
    | (go_at_call 17; refine (hcon _).mono ?_; rintro x w' ⟨rfl, hb'⟩)
    | go_in)
  have hB3 : Below w.heap.size w w3 := (Below.refl _ w).grown hgrow3 (Nat.le_refl _) (by simp)
  clear hown3 hgrow3
  go_loopw [4, 5, 6, 7, 8] (fun r p l d s wr => r = .slice (some ⟨w.heap.size, 0, none⟩) 0 1 ∧ p = .int .i64 0 ∧ l = .int .i64 0 ∧ d = .bool false ∧ s = .int .i64 0 ∧ wr = w3) (fun _ _ _ _ _ _ => 0)
  case atStart => exact ⟨rfl, rfl, rfl, rfl, rfl, rfl⟩
  case round =>
    obtain ⟨rfl, rfl, rfl, rfl, rfl, rfl⟩ := hrel
    go_wp2_with (go_at_call 17; refine (hcon _).mono ?_; rintro x w' ⟨rfl, hb'⟩)
    have hbW : Below w.heap.size w w' := hB3.trans (hb'.mono hB3.size)
    clear hcon hB3
    go_loopw [13] (fun i wz => i = .int .i64 0 ∧ wz = w') (fun _ _ => 0)
    case atStart => exact ⟨rfl, rfl⟩
    case round =>
      obtain ⟨rfl, rfl⟩ := hrel
      go_wp2
      go_ret
      exact ⟨rfl, hbW⟩

end Go.Proofs.Qxb6602462a.Walks
