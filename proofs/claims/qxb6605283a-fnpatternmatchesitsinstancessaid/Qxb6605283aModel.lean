/-
  THE WALKS of zzSplitSlash and zzModelMatch.
-/
import Derived.Test.Qxb6605283aMatch
namespace Go.Proofs.Qxb6605283a.Walks
open Go.RowKit Go.Proofs.Qxb6605283a.Plain Go.Proofs.Qxb6605283a.Laws
set_option linter.unusedVariables false
set_option linter.unusedSimpArgs false

/-- What holds at k: the pieces pcs are cut off; the next begins at st; no slash from there to k. -/
def SP (s : ByteArray) (k st : Nat) (pcs : List ByteArray) : Prop :=
  st ≤ k ∧ k ≤ s.size ∧ pcs.length ≤ st ∧ split (L s) = pcs.map L ++ split ((L s).drop st) ∧ ∀ x ∈ ((L s).drop st).take (k - st), x ≠ 47

theorem SP.start (s : ByteArray) : SP s 0 0 [] := ⟨by omega, by omega, by simp, by simp, by simp⟩

theorem SP.cut {s : ByteArray} {k st : Nat} {pcs : List ByteArray} (h : SP s k st pcs) (hk : k < s.size) (h47 : s[k] = 47) : SP s (k + 1) (k + 1) (pcs ++ [s.extract st k]) := by
  obtain ⟨h1, h2, h3, h4, h5⟩ := h
  refine ⟨by omega, by omega, by simp; omega, ?_, by simp⟩
  have e : (L s).drop st = ((L s).drop st).take (k - st) ++ 47 :: (L s).drop (k + 1) := by
    conv => lhs; rw [← List.take_append_drop (k - st) ((L s).drop st)]
    rw [List.drop_drop, show st + (k - st) = k by omega, L_drop s k hk, h47]
  rw [h4]
  conv => lhs; rw [e]
  rw [split_piece _ _ h5, List.map_append]
  simp [L_extract]

theorem SP.step {s : ByteArray} {k st : Nat} {pcs : List ByteArray} (h : SP s k st pcs) (hk : k < s.size) (h47 : ¬ s[k] = 47) : SP s (k + 1) st pcs := by
  obtain ⟨h1, h2, h3, h4, h5⟩ := h
  refine ⟨by omega, by omega, h3, h4, fun x hx => ?_⟩
  rw [show k + 1 - st = (k - st) + 1 by omega, List.take_succ_eq_append_getElem (by simp [L_size]; omega)] at hx
  rcases List.mem_append.1 hx with hx | hx
  · exact h5 x hx
  · simp only [List.mem_singleton] at hx
    rw [List.getElem_drop] at hx
    have hg := L_get s k hk
    rw [List.getElem?_eq_getElem (by rw [L_size]; exact hk)] at hg
    have e := Option.some.inj hg
    have e2 : x = s[k] := by rw [hx, ← e]; congr 1; omega
    rw [e2]; exact h47

theorem SP.fin {s : ByteArray} {k st : Nat} {pcs : List ByteArray} (h : SP s k st pcs) (hk : ¬ k < s.size) : (pcs ++ [s.extract st s.size]).map L = split (L s) := by
  obtain ⟨h1, h2, h3, h4, h5⟩ := h
  have : ((L s).drop st).take (k - st) = (L s).drop st := List.take_of_length_le (by simp [L_size]; omega)
  rw [this] at h5
  rw [h4, split_last _ h5, List.map_append]
  simp [L_extract_end]

set_option maxHeartbeats 1000000 in
set_option maxRecDepth 100000 in
theorem split_own (s : ByteArray) (w : World) (hs : s.size ≤ 1048576) :
    Calls Try.prog 19 #[.string s] w fun e w' => ∃ (v : Value) (pcs : List ByteArray), e = .returned v ∧ w'.ownsRow w.heap.size 9 1 v pcs.length (pcs.map Value.string) ∧ pcs.map L = split (L s) ∧ Below w.heap.size w w' := by
  obtain ⟨i0, hi, hz0, hz1, hz2⟩ := info_parts info9
  go_enter Try.func19, Try.ntmps19
  go_wp2
  go_loopw [3, 4, 5] (fun v a i wr => ∃ (k st : Nat) (pcs : List ByteArray), a = .int .i64 st ∧ i = .int .i64 k ∧ SP s k st pcs ∧ wr.ownsRow w.heap.size 9 1 v pcs.length (pcs.map Value.string) ∧ Below w.heap.size w wr)
    (fun _ _ i _ => s.size - (intOf i).toNat)
  case atStart => exact ⟨0, 0, [], rfl, rfl, SP.start s, World.ownsRow_nil _ _ _ _, Below.refl _ _⟩
  case round =>
    obtain ⟨k, st, pcs, rfl, rfl, hS, hown, hbl⟩ := hrel
    have h1 : st ≤ k := hS.1
    have h2 : k ≤ s.size := hS.2.1
    have h3 : pcs.length ≤ st := hS.2.2.1
    have HS : Hid (SP s k st pcs) := hS
    clear hS
    have hsz := hbl.size
    by_cases hlt : k < s.size
    · by_cases h47 : s[k] = 47
      · have hb : ((s[k].toNat : Int) == 47) = true := by simpa using (slash_eq _).2 h47
        have HN : Hid (SP s (k + 1) (k + 1) (pcs ++ [s.extract st k])) := HS.out.cut hlt h47
        clear h47 HS
        go_wp2_with (at_builtin; refine wpList_append_own _ rfl (.tmp 16) (.tmp 21) 29 rfl w.heap.size 9 i0 (.string ⟨#[]⟩) 1 16 Try.underlying29 hi hz0 hz1 hz2 rfl (by decide) _ _ _ rfl (hown.alloc _) ⟨wr.heap.size, 0, none⟩ 1 1 [.string (s.extract st k)] rfl rfl (cell_one_new _ _ _) (by simp [Value.oneCell']) (by unfold maxLen; omega) (by omega) (by simp; omega) ?_; intro v' w1 hown' hgrow hnil)
        have R : w1.ownsRow w.heap.size 9 1 v' (pcs ++ [s.extract st k]).length ((pcs ++ [s.extract st k]).map Value.string) := by simpa using hown'
        have hb1 : Below w.heap.size w w1 := (hbl.alloc (by omega) _).grown hgrow (by simp; omega) (fun j hj => (hown.lt j hj).1)
        clear hown' hgrow hnil hown hbl
        go_roundw
        case rel => exact ⟨k + 1, k + 1, _, by go_num, by go_num, HN.out, R, hb1⟩
        case measure => simp [intOf]; omega
      · have hb : ((s[k].toNat : Int) == 47) = false := by simpa using fun h => h47 ((slash_eq _).1 h)
        have HN : Hid (SP s (k + 1) st pcs) := HS.out.step hlt h47
        clear h47 HS
        go_wp2
        go_roundw
        case rel => exact ⟨k + 1, st, pcs, rfl, by go_num, HN.out, hown, hbl⟩
        case measure => simp [intOf]; omega
    · go_wp2_with (at_builtin; refine wpList_append_own _ rfl (.tmp 25) (.tmp 29) 29 rfl w.heap.size 9 i0 (.string ⟨#[]⟩) 1 16 Try.underlying29 hi hz0 hz1 hz2 rfl (by decide) _ _ _ rfl (hown.alloc _) ⟨wr.heap.size, 0, none⟩ 1 1 [.string (s.extract st s.size)] rfl rfl (cell_one_new _ _ _) (by simp [Value.oneCell']) (by unfold maxLen; omega) (by omega) (by simp; omega) ?_; intro v' w1 hown' hgrow hnil)
      have R : w1.ownsRow w.heap.size 9 1 v' (pcs ++ [s.extract st s.size]).length ((pcs ++ [s.extract st s.size]).map Value.string) := by simpa using hown'
      have hb1 : Below w.heap.size w w1 := (hbl.alloc (by omega) _).grown hgrow (by simp; omega) (fun j hj => (hown.lt j hj).1)
      have HF : Hid ((pcs ++ [s.extract st s.size]).map L = split (L s)) := HS.out.fin hlt
      clear hown' hgrow hnil hown hbl
      go_ret
      exact ⟨v', _, rfl, R, HF.out, hb1⟩

/-- zzSplitSlash: the pieces in a new row. -/
theorem split_any (s : ByteArray) (w : World) (hs : s.size ≤ 1048576) :
    Calls Try.prog 19 #[.string s] w fun e w' => ∃ (g cap : Nat) (pcs : List ByteArray), e = .returned (.slice (some ⟨g, 0, none⟩) pcs.length cap) ∧ (∀ i, i < pcs.length → w'.cell? ⟨g, i, none⟩ = some (.string (pcs.getD i ByteArray.empty))) ∧ pcs.map L = split (L s) ∧ Below w.heap.size w w' := by
  refine (split_own s w hs).mono fun e w' ⟨v, pcs, h1, h2, h3, h4⟩ => ?_
  have hne : pcs.length ≠ 0 := fun h0 => by
    have : pcs = [] := List.eq_nil_of_length_eq_zero h0
    rw [this] at h3
    exact split_ne _ h3.symm
  rcases h2.2 with ⟨_, h0⟩ | ⟨g, cap, cur, hv, _⟩
  · exact absurd h0 hne
  · rw [hv] at h1 h2
    refine ⟨g, cap, pcs, h1, fun i hi => ?_, h3, h4⟩
    rw [h2.cellAt i (by omega)]
    simp [List.getD, List.getElem?_eq_getElem hi]

theorem pcs_get {pcs : List ByteArray} {l : List (List UInt8)} (h : pcs.map L = l) (k : Nat) (hk : k < pcs.length) : l[k]? = some (L (pcs.getD k ByteArray.empty)) := by
  rw [← h, List.getElem?_map, List.getElem?_eq_getElem hk]
  simp [List.getD, List.getElem?_eq_getElem hk]

/-- The first k segments fit. -/
def MF (ss pcs : List ByteArray) (k : Nat) : Prop := ∀ j, j < k → fits (L (ss.getD j ByteArray.empty)) (L (pcs.getD j ByteArray.empty)) = true

theorem MF.step {ss pcs : List ByteArray} {k : Nat} (h : MF ss pcs k) (hf : fits (L (ss.getD k ByteArray.empty)) (L (pcs.getD k ByteArray.empty)) = true) : MF ss pcs (k + 1) := fun j hj => by
  by_cases e : j = k
  · subst e; exact hf
  · exact h j (by omega)

set_option maxHeartbeats 2000000 in
set_option maxRecDepth 100000 in
theorem model_any (ad : Option Addr) (n c : Nat) (ss : List ByteArray) (rest : Bool) (path : ByteArray) (w : World) (hn : n ≤ 1048576) (hss : ss.length = n) (hp : path.size ≤ 1048576)
    (hcell : ∀ i, i < n → ∃ g, ad = some ⟨g, 0, none⟩ ∧ g < w.heap.size ∧ w.cell? ⟨g, i, none⟩ = some (.string (ss.getD i ByteArray.empty))) :
    Calls Try.prog 12 #[.slice ad n c, .bool rest, .string path] w fun e w' => e = .returned (.bool (matchAll (segsOf ss) rest (L path))) ∧ Below w.heap.size w w' := by
  have HC : Hid (∀ i, i < n → ∃ g, ad = some ⟨g, 0, none⟩ ∧ g < w.heap.size ∧ w.cell? ⟨g, i, none⟩ = some (.string (ss.getD i ByteArray.empty))) := hcell
  have HSS : Hid (ss.length = n) := hss
  clear hcell hss
  by_cases h47 : ∃ h0 : 0 < path.size, path[0] = 47
  · obtain ⟨h0, h47⟩ := h47
    rw [matchAll_yes _ _ _ h0 h47, left_true]
    obtain ⟨R, hR⟩ : ∃ R, R = matchP rest (segsOf ss) (split (L (path.extract 1 path.size))) := ⟨_, rfl⟩
    rw [← hR]
    have HR : Hid (R = matchP rest (segsOf ss) (split (L (path.extract 1 path.size)))) := hR
    clear hR
    have hb47 : ((path[0].toNat : Int) != 47) = false := by rw [h47]; rfl
    have hz : ((path.size : Int) == 0) = false := beq_eq_false_iff_ne.2 (by omega)
    have h1 : (1 : Int) ≤ (path.size : Int) := by omega
    have h01 : (0 : Int) < (path.size : Int) := by omega
    have hsp := fun W => split_any (path.extract 1 path.size) W (by simp only [ByteArray.size_extract]; omega)
    clear h47
    go_enter Try.func12, Try.ntmps12
    go_wp2_with fail
    refine (hsp _).mono ?_
    rintro e w' ⟨g, cap, pcs, rfl, hpc, hpl, hbl⟩
    have HPC : Hid (∀ i, i < pcs.length → w'.cell? ⟨g, i, none⟩ = some (.string (pcs.getD i ByteArray.empty))) := hpc
    have HPL : Hid (pcs.map L = split (L (path.extract 1 path.size))) := hpl
    have hplen : pcs.length ≤ path.size + 1 := by
      have h1 := congrArg List.length hpl
      have h2 := split_length (L (path.extract 1 path.size))
      rw [List.length_map] at h1
      rw [L_size] at h2
      simp only [ByteArray.size_extract] at h2
      omega
    have hlen1 : (split (L (path.extract 1 path.size))).length = pcs.length := by rw [← hpl, List.length_map]
    have hlen2 : (segsOf ss).length = n := by rw [segsOf, List.length_map]; exact HSS.out
    clear hpc hpl hsp
    by_cases hA : pcs.length < n
    · have hRf : R = false := by rw [HR.out]; exact matchP_short _ _ (by omega)
      subst hRf
      clear hlen1 hlen2
      go_wp2
      go_ret
      exact ⟨rfl, hbl⟩
    · have hA' : n ≤ pcs.length := by omega
      clear hA
      by_cases hB : rest = false ∧ pcs.length ≠ n
      · obtain ⟨rfl, hne⟩ := hB
        have hRf : R = false := by rw [HR.out]; exact matchP_long _ _ (by omega)
        subst hRf
        have hb : ((pcs.length : Int) != (n : Int)) = true := bne_iff_ne.2 (by omega)
        clear hlen1 hlen2 hne
        go_wp2
        go_ret
        exact ⟨rfl, hbl⟩
      · have hB' : rest = true ∨ (rest = false ∧ pcs.length = n) := by
          cases rest with
          | true => exact .inl rfl
          | false => exact .inr ⟨rfl, Classical.not_not.1 fun h => hB ⟨rfl, h⟩⟩
        have HGOOD : Hid (MF ss pcs n → R = true) := fun hf => by
          rw [HR.out]
          refine matchP_good _ _ (by omega) ?_ fun k hk => ?_
          · rcases hB' with h | ⟨_, h⟩
            · exact .inl h
            · exact .inr (by omega)
          · exact ⟨_, _, pcs_get (by rfl : ss.map L = segsOf ss) k (by rw [HSS.out]; omega), pcs_get HPL.out k (by omega), hf k (by omega)⟩
        have HBAD : Hid (∀ k, k < n → fits (L (ss.getD k ByteArray.empty)) (L (pcs.getD k ByteArray.empty)) = false → R = false) := fun k hk hf => by
          rw [HR.out]
          exact matchP_bad _ _ k _ _ (pcs_get (by rfl : ss.map L = segsOf ss) k (by rw [HSS.out]; omega)) (pcs_get HPL.out k (by omega)) hf
        have HCS : Hid (∀ i, i < n → ∃ g0, ad = some ⟨g0, 0, none⟩ ∧ w'.cell? ⟨g0, i, none⟩ = some (.string (ss.getD i ByteArray.empty))) := fun i hi => by
          obtain ⟨g0, h1, h2, h3⟩ := HC.out i hi
          exact ⟨g0, h1, (hbl.cell (by exact h2)).trans h3⟩
        clear hB hlen1 hlen2 HPL HR HC
        have hways : rest = true ∨ (rest = false ∧ ((pcs.length : Int) != (n : Int)) = false) := by
          rcases hB' with h | ⟨h1, h2⟩
          · exact .inl h
          · exact .inr ⟨h1, by simp [h2]⟩
        clear hB'
        rcases hways with rfl | ⟨rfl, hb⟩
        all_goals
          go_wp2
          go_loopw [8] (fun i wr => ∃ k q : Nat, k ≤ n ∧ i = .int .i64 k ∧ MF ss pcs k ∧ wr = w'.drewN q) (fun i _ => n - (intOf i).toNat)
          case atStart => exact ⟨0, 0, Nat.zero_le _, rfl, fun j hj => by omega, rfl⟩
          case round =>
            obtain ⟨k, q, hk, rfl, hM, rfl⟩ := hrel
            have HM : Hid (MF ss pcs k) := hM
            clear hM
            by_cases hlt : k < n
            · obtain ⟨g0, had, c0⟩ := HCS.out k hlt
              have c1 := HPC.out k (by omega)
              have hbad := HBAD.out k hlt
              have hstep := fun hf => HM.out.step (k := k) hf
              obtain ⟨wt, hwt⟩ : ∃ wt, wt = ss.getD k ByteArray.empty := ⟨_, rfl⟩
              obtain ⟨pk, hpk⟩ : ∃ pk, pk = pcs.getD k ByteArray.empty := ⟨_, rfl⟩
              rw [← hwt] at c0 hbad hstep
              rw [← hpk] at c1 hbad hstep
              have HBK : Hid (fits (L wt) (L pk) = false → R = false) := hbad
              have HSK : Hid (fits (L wt) (L pk) = true → MF ss pcs (k + 1)) := hstep
              clear hwt hpk hbad hstep HM
              have hkp : k < pcs.length := by omega
              subst had
              by_cases hstar : L wt = [42]
              · have hs1 : (wt.toList == [42]) = true := by rw [L_toList, hstar]; rfl
                by_cases hd : L pk = []
                · have hRf := HBK.out (by rw [fits, if_pos hstar, hd]; rfl)
                  subst hRf
                  have hd1 : pk.toList.isEmpty = true := isEmpty_of hd
                  clear hstar hd
                  go_wp2
                  go_ret
                  exact ⟨rfl, below_drewN hbl _⟩
                · have HN : Hid (MF ss pcs (k + 1)) := HSK.out (by
                    rw [fits, if_pos hstar]
                    cases hh : L pk with
                    | nil => exact absurd hh hd
                    | cons a b => rfl)
                  have hd1 : pk.toList.isEmpty = false := by
                    rw [L_toList]
                    cases hh : L pk with
                    | nil => exact absurd hh hd
                    | cons a b => rfl
                  clear hstar hd
                  go_wp2
                  go_roundw
                  case rel => exact ⟨k + 1, _, by omega, by go_num, HN.out, rfl⟩
                  case measure => simp [intOf]; omega
              · have hs1 : (wt.toList == [42]) = false := by rw [L_toList]; simpa using hstar
                by_cases hd : L pk = L wt
                · have HN : Hid (MF ss pcs (k + 1)) := HSK.out (by rw [fits, if_neg hstar, hd]; simp)
                  have hd1 : (pk.toList == wt.toList) = true := by rw [L_toList, L_toList, hd]; simp
                  clear hstar hd
                  go_wp2
                  go_quiet (fail)
                  go_wp2
                  go_roundw
                  case rel => exact ⟨k + 1, _, by omega, by go_num, HN.out, rfl⟩
                  case measure => simp [intOf]; omega
                · have hRf := HBK.out (by rw [fits, if_neg hstar]; simpa using hd)
                  subst hRf
                  have hd1 : (pk.toList == wt.toList) = false := by rw [L_toList, L_toList]; simpa using hd
                  clear hstar hd
                  go_wp2
                  go_quiet (fail)
                  go_wp2
                  go_ret
                  exact ⟨rfl, below_drewN (below_drewN hbl _) _⟩
            · have hRt := HGOOD.out (fun j hj => HM.out j (by omega))
              subst hRt
              clear HM
              go_wp2
              go_ret
              exact ⟨rfl, below_drewN hbl _⟩
  · rw [matchAll_no _ _ _ h47]
    by_cases h0 : 0 < path.size
    · have hb47 : ((path[0].toNat : Int) != 47) = true := by simpa using fun h => h47 ⟨h0, (slash_eq _).1 h⟩
      have hz : ((path.size : Int) == 0) = false := beq_eq_false_iff_ne.2 (by omega)
      have h01 : (0 : Int) < (path.size : Int) := by omega
      clear h47
      go_enter Try.func12, Try.ntmps12
      go_wp2
      go_ret
      exact ⟨rfl, Below.refl _ _⟩
    · have hz : ((path.size : Int) == 0) = true := beq_iff_eq.2 (by omega)
      clear h47
      go_enter Try.func12, Try.ntmps12
      go_wp2
      go_ret
      exact ⟨rfl, Below.refl _ _⟩

end Go.Proofs.Qxb6605283a.Walks
