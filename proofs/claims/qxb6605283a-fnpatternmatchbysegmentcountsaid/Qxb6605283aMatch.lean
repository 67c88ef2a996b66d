/-
  THE WALK of (Pattern).Match.
-/
import Derived.Test.Qxb6605283aSmall
namespace Go.Proofs.Qxb6605283a.Walks
open Go.RowKit Go.Proofs.Qxb6605283a.Plain Go.Proofs.Qxb6605283a.Laws
set_option linter.unusedVariables false
set_option linter.unusedSimpArgs false

/-- A path that does not begin with a slash. -/
theorem matchAll_no (segs : List (List UInt8)) (rest : Bool) (t : ByteArray) (h : ¬ (∃ h0 : 0 < t.size, t[0] = 47)) : matchAll segs rest (L t) = false := by
  by_cases h0 : 0 < t.size
  · rw [show L t = (L t).drop 0 from rfl, L_drop t 0 h0]
    simp only [matchAll]
    rw [if_neg (fun e => h ⟨h0, e⟩)]
  · have : L t = [] := List.eq_nil_of_length_eq_zero (by rw [L_size]; omega)
    rw [this]; rfl

theorem matchAll_yes (segs : List (List UInt8)) (rest : Bool) (t : ByteArray) (h0 : 0 < t.size) (h : t[0] = 47) : matchAll segs rest (L t) = matchP rest segs (left (t.extract 1 t.size) true) := by
  have e : L t = 47 :: (L t).drop 1 := by conv => lhs; rw [show L t = (L t).drop 0 from rfl, L_drop t 0 h0, h]
  rw [left_true, L_extract_end]
  conv => lhs; rw [e]
  simp [matchAll]

/-- The pattern's segments as lists of bytes. -/
def segsOf (ss : List ByteArray) : List (List UInt8) := ss.map L

theorem segs_drop (ss : List ByteArray) (k : Nat) (h : k < ss.length) : (segsOf ss).drop k = L (ss.getD k ByteArray.empty) :: (segsOf ss).drop (k + 1) := by
  have hk : k < (segsOf ss).length := by simpa [segsOf] using h
  rw [List.drop_eq_getElem_cons hk]
  congr 1
  simp [segsOf, List.getD, List.getElem?_eq_getElem h]

theorem isEmpty_of {d : ByteArray} (h : L d = []) : d.toList.isEmpty = true := by rw [L_toList, h]; rfl

set_option maxHeartbeats 2000000 in
set_option maxRecDepth 100000 in
theorem match_any (ad : Option Addr) (n c : Nat) (ss : List ByteArray) (rest : Bool) (path : ByteArray) (w : World) (hn : n ≤ 1048576) (hss : ss.length = n) (hp : path.size ≤ 1099511627776)
    (hcell : ∀ i, i < n → ∃ g, ad = some ⟨g, 0, none⟩ ∧ g < w.heap.size ∧ w.cell? ⟨g, i, none⟩ = some (.string (ss.getD i ByteArray.empty))) :
    Calls Try.prog 11 #[.agg #[.slice ad n c, .bool rest], .string path] w fun e w' => e = .returned (.bool (matchAll (segsOf ss) rest (L path))) ∧ Below w.heap.size w w' := by
  have HC : Hid (∀ i, i < n → ∃ g, ad = some ⟨g, 0, none⟩ ∧ g < w.heap.size ∧ w.cell? ⟨g, i, none⟩ = some (.string (ss.getD i ByteArray.empty))) := hcell
  have HSS : Hid (ss.length = n) := hss
  clear hcell hss
  by_cases h47 : ∃ h0 : 0 < path.size, path[0] = 47
  · obtain ⟨h0, h47⟩ := h47
    rw [matchAll_yes _ _ _ h0 h47]
    obtain ⟨R, hR⟩ : ∃ R, R = matchP rest (segsOf ss) (left (path.extract 1 path.size) true) := ⟨_, rfl⟩
    rw [← hR]
    have HR : Hid (R = matchP rest (segsOf ss) (left (path.extract 1 path.size) true)) := hR
    clear hR
    have hpre := fun W => prefix_yes path W hp h0 h47
    clear h47
    go_enter Try.func11, Try.ntmps11
    go_wp2_with (go_at_call 17; refine (hpre _).mono ?_; rintro e w' ⟨rfl, rfl⟩)
    clear hpre
    go_loopw [5, 7, 21] (fun t m i wr => ∃ (k : Nat) (tt : ByteArray) (mm : Bool) (q : Nat), k ≤ n ∧ t = .string tt ∧ m = .bool mm ∧ i = .int .i64 k ∧ tt.size ≤ 1099511627776 ∧ matchP rest ((segsOf ss).drop k) (left tt mm) = R ∧ wr = (w.alloc (.cells #[.slice ad n c, .bool rest] 33)).drewN q)
      (fun _ _ i _ => n - (intOf i).toNat)
    case atStart => exact ⟨0, _, true, 0, Nat.zero_le _, rfl, rfl, rfl, by simp only [ByteArray.size_extract]; omega, by rw [List.drop_zero]; exact HR.out.symm, rfl⟩
    case round =>
      obtain ⟨k, tt, mm, q, hk, rfl, rfl, rfl, htt, hM, rfl⟩ := hrel
      have HM : Hid (matchP rest ((segsOf ss).drop k) (left tt mm) = R) := hM
      clear hM
      by_cases hlt : k < n
      · obtain ⟨g, had, hg, hcg⟩ := HC.out k hlt
        obtain ⟨wt, hwt⟩ : ∃ wt, wt = ss.getD k ByteArray.empty := ⟨_, rfl⟩
        rw [← hwt] at hcg
        have HD : Hid ((segsOf ss).drop k = L wt :: (segsOf ss).drop (k + 1)) := by rw [Hid, hwt]; exact segs_drop ss k (by rw [HSS.out]; exact hlt)
        clear hwt
        subst had
        cases mm with
        | false =>
          have hRf : R = false := by rw [← HM.out, HD.out, left_false]; rfl
          subst hRf
          go_wp2
          go_ret
          exact ⟨rfl, below_drewN ((Below.refl _ _).alloc (Nat.le_refl _) _) _⟩
        | true =>
          obtain ⟨d, r, m, hC⟩ := cut3_exists tt
          obtain ⟨hsd, hsr⟩ := hC.size
          have HF : Hid ((fits (L wt) (L d) && matchP rest ((segsOf ss).drop (k + 1)) (left r m)) = R) := by
            rw [Hid, ← HM.out, HD.out, hC.left]; rfl
          have hcut := fun W => cut_any tt d r m W htt hC
          clear hC HM HD
          by_cases hstar : L wt = [42]
          · have hs1 : (wt.toList == [42]) = true := by rw [L_toList, hstar]; rfl
            by_cases hd : L d = []
            · have hRf : R = false := by rw [← HF.out, fits, if_pos hstar, hd]; rfl
              subst hRf
              have hd1 : d.toList.isEmpty = true := isEmpty_of hd
              clear hstar hd HF
              go_wp2_with (go_at_call 18; refine (hcut _).mono ?_; rintro e w' ⟨rfl, q', rfl⟩)
              go_ret
              exact ⟨rfl, below_drewN ((Below.refl _ _).alloc (Nat.le_refl _) _) _⟩
            · have HF' : Hid (matchP rest ((segsOf ss).drop (k + 1)) (left r m) = R) := by
                have := HF.out
                rw [fits, if_pos hstar] at this
                cases hh : L d with
                | nil => exact absurd hh hd
                | cons a b => rw [hh] at this; simpa [Hid] using this
              have hd1 : d.toList.isEmpty = false := by
                rw [L_toList]
                cases hh : L d with
                | nil => exact absurd hh hd
                | cons a b => rfl
              clear hstar hd HF
              go_wp2_with (go_at_call 18; refine (hcut _).mono ?_; rintro e w' ⟨rfl, q', rfl⟩)
              go_roundw
              case rel => exact ⟨k + 1, r, m, _, by omega, rfl, rfl, by go_num, by omega, HF'.out, rfl⟩
              case measure => simp [intOf]; omega
          · have hs1 : (wt.toList == [42]) = false := by rw [L_toList]; simpa using hstar
            by_cases hd : L d = L wt
            · have HF' : Hid (matchP rest ((segsOf ss).drop (k + 1)) (left r m) = R) := by
                have := HF.out
                rw [fits, if_neg hstar, hd] at this
                simpa [Hid] using this
              have hd1 : (d.toList == wt.toList) = true := by rw [L_toList, L_toList, hd]; simp
              clear hstar hd HF
              go_wp2_with (go_at_call 18; refine (hcut _).mono ?_; rintro e w' ⟨rfl, q', rfl⟩)
              go_roundw
              case rel => exact ⟨k + 1, r, m, _, by omega, rfl, rfl, by go_num, by omega, HF'.out, rfl⟩
              case measure => simp [intOf]; omega
            · have hRf : R = false := by
                rw [← HF.out, fits, if_neg hstar]
                have : (L d == L wt) = false := by simpa using hd
                rw [this]; rfl
              subst hRf
              have hd1 : (d.toList == wt.toList) = false := by rw [L_toList, L_toList]; simpa using hd
              clear hstar hd HF
              go_wp2_with (go_at_call 18; refine (hcut _).mono ?_; rintro e w' ⟨rfl, q', rfl⟩)
              go_ret
              exact ⟨rfl, below_drewN ((Below.refl _ _).alloc (Nat.le_refl _) _) _⟩
      · have hM := HM.out
        rw [show (segsOf ss).drop k = [] by rw [List.drop_eq_nil_iff]; have := HSS.out; simp [segsOf]; omega] at hM
        have hR : R = (rest || !mm) := by
          rw [← hM, matchP]
          cases mm with
          | false => rw [left_false]; rfl
          | true =>
            rw [left_true]
            cases hh : split (L tt) with
            | nil => exact absurd hh (split_ne _)
            | cons a b => rfl
        clear hM HM
        subst hR
        cases rest <;> cases mm
        all_goals
          go_wp2
          go_ret
          exact ⟨rfl, below_drewN ((Below.refl _ _).alloc (Nat.le_refl _) _) _⟩
  · rw [matchAll_no _ _ _ h47]
    have hpre := fun W => prefix_no path W hp h47
    clear h47
    go_enter Try.func11, Try.ntmps11
    go_wp2_with (go_at_call 17; refine (hpre _).mono ?_; rintro e w' ⟨rfl, rfl⟩)
    go_ret
    exact ⟨rfl, (Below.refl _ _).alloc (Nat.le_refl _) _⟩

end Go.Proofs.Qxb6605283a.Walks
