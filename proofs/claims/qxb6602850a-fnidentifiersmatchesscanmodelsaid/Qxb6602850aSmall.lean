/-
  THE WALKS of the small functions: isDigit, isDecDigit, isIdentByte, isDigits, isNumber, strings.Cut at a dot.
-/
import Derived.Test.Qxb6602850aRows
import Derived.Test.Qxb6602850aPlain
import Derived.Test.Qxb6602850aShelf
import Derived.WalkKit
import Derived.WalkSpells
import Derived.WalkLawsBesides
import Derived.Deep.QuietTactic
import Derived.BigQuiet
import Derived.Below
namespace Go.Proofs.Qxb6602850a.Walks
open Go.RowKit Go.Proofs.Qxb6602850a.Plain
set_option linter.unusedVariables false
set_option linter.unusedSimpArgs false

theorem isDigit_any (x : Int) (w : World) : Calls Try.prog 28 #[.int .u8 x] w fun e w' => e = .returned (.bool (digI x)) ∧ w' = w := by
  by_cases h : 48 ≤ x ∧ x ≤ 57
  · rw [digI_t h]
    obtain ⟨h1, h2⟩ := h
    go_enter Try.func28, Try.ntmps28
    go_wp2
    go_ret
    exact ⟨by simp_all, rfl⟩
  · rw [digI_f h]
    rcases (by omega : x < 48 ∨ (48 ≤ x ∧ 57 < x)) with h1 | ⟨h1, h2⟩
    all_goals
      clear h
      go_enter Try.func28, Try.ntmps28
      go_wp2
      go_ret
      exact ⟨by first | rfl | (simp; omega) | (simp_all; done) | (simp_all; omega), rfl⟩

theorem isDec_any (x : Int) (w : World) : Calls Try.prog 22 #[.int .u8 x] w fun e w' => e = .returned (.bool (digI x)) ∧ w' = w := by
  by_cases h : 48 ≤ x ∧ x ≤ 57
  · rw [digI_t h]
    obtain ⟨h1, h2⟩ := h
    go_enter Try.func22, Try.ntmps22
    go_wp2
    go_ret
    exact ⟨by simp_all, rfl⟩
  · rw [digI_f h]
    rcases (by omega : x < 48 ∨ (48 ≤ x ∧ 57 < x)) with h1 | ⟨h1, h2⟩
    all_goals
      clear h
      go_enter Try.func22, Try.ntmps22
      go_wp2
      go_ret
      exact ⟨by first | rfl | (simp; omega) | (simp_all; done) | (simp_all; omega), rfl⟩

set_option maxHeartbeats 1000000 in
theorem isIdent_any (x : Int) (w : World) : Calls Try.prog 21 #[.int .u8 x] w fun e w' => e = .returned (.bool (idI x)) ∧ w' = w := by
  by_cases h : (48 ≤ x ∧ x ≤ 57) ∨ x = 45 ∨ (97 ≤ x ∧ x ≤ 122) ∨ (65 ≤ x ∧ x ≤ 90)
  · rw [idI_t h]
    rcases h with h | rfl | h | h
    · have hd := isDec_any x w
      rw [digI_t h] at hd
      go_enter Try.func21, Try.ntmps21
      go_wp2_with (go_at_call 22; refine hd.mono ?_; rintro e w' ⟨rfl, rfl⟩)
      go_ret
      exact ⟨rfl, rfl⟩
    · have hd := isDec_any 45 w
      rw [digI_f (by omega)] at hd
      go_enter Try.func21, Try.ntmps21
      go_wp2_with (go_at_call 22; refine hd.mono ?_; rintro e w' ⟨rfl, rfl⟩)
      go_ret
      exact ⟨rfl, rfl⟩
    all_goals
      have hd := isDec_any x w
      rw [digI_f (by omega)] at hd
      obtain ⟨h1, h2⟩ := h
      have h45 : (x == 45) = false := by simp; omega
      go_enter Try.func21, Try.ntmps21
      go_wp2_with (go_at_call 22; refine hd.mono ?_; rintro e w' ⟨rfl, rfl⟩)
      go_ret
      exact ⟨by first | rfl | simp_all, rfl⟩
  · rw [idI_f h]
    have hd := isDec_any x w
    rw [digI_f (by omega)] at hd
    have h45 : (x == 45) = false := by simp; omega
    rcases (by omega : x < 65 ∨ (90 < x ∧ x < 97) ∨ 122 < x) with h1 | ⟨h1, h2⟩ | h1
    all_goals
      clear h
      go_enter Try.func21, Try.ntmps21
      go_wp2_with (go_at_call 22; refine hd.mono ?_; rintro e w' ⟨rfl, rfl⟩)
      go_ret
      exact ⟨by first | rfl | (simp; omega) | (simp_all; done) | (simp_all; omega), rfl⟩

set_option maxHeartbeats 400000 in
theorem cut31 (t d r : ByteArray) (m : Bool) (w : World) (ht : t.size ≤ 1048576) (h : Cut3 t d r m) :
    Calls Try.prog 31 #[.string t, .string ⟨#[46]⟩] w fun e w' => e = .returned (.tuple #[.string d, .string r, .bool m]) ∧ ∃ q, w' = w.drewN q := by
  have hix := Try.stringslite_Index_one t 46 w
  rcases h with ⟨i, h1, h2, rfl, rfl, rfl⟩ | ⟨h1, rfl, rfl, rfl⟩
  · rw [h2] at hix
    clear h2
    have hi0 : (0 : Int) ≤ (i : Int) := by omega
    have hi1 : (i : Int) ≤ (t.size : Int) := by omega
    have hi2 : (i : Int) + 1 ≤ (t.size : Int) := by omega
    go_enter Try.func31, Try.ntmps31
    go_wp2_with (first | (go_at_call 34; refine hix.mono ?_; rintro e w' ⟨rfl, rfl⟩))
    go_quiet (fail)
    go_wp2
    go_ret3
    exact ⟨rfl, _, rfl⟩
  · rw [h1] at hix
    clear h1
    go_enter Try.func31, Try.ntmps31
    go_wp2_with (first | (go_at_call 34; refine hix.mono ?_; rintro e w' ⟨rfl, rfl⟩))
    go_ret3
    exact ⟨rfl, 0, rfl⟩

theorem cut_any (t d r : ByteArray) (m : Bool) (w : World) (ht : t.size ≤ 1048576) (h : Cut3 t d r m) :
    Calls Try.prog 25 #[.string t, .string ⟨#[46]⟩] w fun e w' => e = .returned (.tuple #[.string d, .string r, .bool m]) ∧ ∃ q, w' = w.drewN q := by
  have hc := cut31 t d r m w ht h
  clear h
  go_enter Try.func25, Try.ntmps25
  go_wp2_with (first | (go_at_call 31; refine hc.mono ?_; rintro e w' ⟨rfl, q, rfl⟩))
  go_ret3
  exact ⟨rfl, q, rfl⟩

theorem digs_step {d : ByteArray} {k : Nat} (hk : k < d.size) (h : ∀ j, j < k → (ints d)[j]?.any digI = true) (hd : digI (d[k].toNat : Int) = true) : ∀ j, j < k + 1 → (ints d)[j]?.any digI = true := by
  intro j hj
  by_cases e : j = k
  · subst e; rw [ints_get d j hk]; simpa using hd
  · exact h j (by omega)

theorem all_of {p : Int → Bool} {d : ByteArray} (h : ∀ j, j < d.size → (ints d)[j]?.any p = true) : (ints d).all p = true := by
  rw [List.all_eq_true]
  intro x hx
  obtain ⟨j, hj, he⟩ := List.getElem_of_mem hx
  have := h j (by rw [← ints_length]; exact hj)
  rw [List.getElem?_eq_getElem hj, he] at this
  simpa using this

theorem all_not {p : Int → Bool} {d : ByteArray} {k : Nat} (hk : k < d.size) (h : p (d[k].toNat : Int) = false) : (ints d).all p = false := by
  rw [← Bool.not_eq_true, List.all_eq_true]
  intro hall
  have hg := ints_get d k hk
  have := hall _ (List.mem_of_getElem? hg)
  rw [h] at this
  cases this

set_option maxHeartbeats 400000 in
theorem isDigits_any (d : ByteArray) (w : World) (hd : d.size ≤ 1048576) : Calls Try.prog 26 #[.string d] w fun e w' => e = .returned (.bool (digs (ints d))) ∧ w' = w := by
  by_cases h0 : d.size = 0
  · have hl : ints d = [] := List.eq_nil_of_length_eq_zero (by rw [ints_length]; exact h0)
    rw [show digs (ints d) = false by rw [hl]; rfl]
    have he : d.toList = [] := by rw [Lib.toList_data]; apply List.eq_nil_of_length_eq_zero; rw [← Lib.size_eq]; exact h0
    clear hl
    go_enter Try.func26, Try.ntmps26
    go_wp2
    go_ret
    exact ⟨rfl, rfl⟩
  · have he : d.toList.isEmpty = false := by
      rw [Lib.toList_data]
      cases hh : d.data.toList with
      | nil => exfalso; apply h0; rw [Lib.size_eq, hh]; rfl
      | cons a b => rfl
    go_enter Try.func26, Try.ntmps26
    go_wp2
    go_loop [8] (fun i => ∃ k : Nat, k ≤ d.size ∧ i = .int .i64 k ∧ ∀ j, j < k → (ints d)[j]?.any digI = true) (fun i => d.size - (intOf i).toNat)
    case atStart => exact ⟨0, Nat.zero_le _, rfl, fun j hj => by omega⟩
    case round =>
      obtain ⟨k, hk, rfl, hall⟩ := hrel
      have HA : Hid (∀ j, j < k → (ints d)[j]?.any digI = true) := hall
      clear hall
      by_cases hlt : k < d.size
      · by_cases hg : digI (d[k].toNat : Int) = true
        · have HN : Hid (∀ j, j < k + 1 → (ints d)[j]?.any digI = true) := digs_step hlt HA.out hg
          go_wp2_with (go_at_call 28; refine (isDigit_any _ _).mono ?_; rintro e w' ⟨rfl, rfl⟩)
          go_round
          case rel => exact ⟨k + 1, by omega, by go_num, HN.out⟩
          case measure => simp [intOf]; omega
        · have hg' : digI (d[k].toNat : Int) = false := by simpa using hg
          have HR : Hid (digs (ints d) = false) := by unfold digs; rw [all_not hlt hg']; simp [Hid]
          clear hg
          go_wp2_with (go_at_call 28; refine (isDigit_any _ _).mono ?_; rintro e w' ⟨rfl, rfl⟩)
          go_ret
          exact ⟨by rw [HR.out]; rfl, rfl⟩
      · have HR : Hid (digs (ints d) = true) := by
          unfold digs
          rw [all_of (fun j hj => HA.out j (by omega))]
          have : ints d ≠ [] := fun e => h0 (by rw [← ints_length, e]; rfl)
          simp [Hid, this]
        go_wp2
        go_ret
        exact ⟨by rw [HR.out]; rfl, rfl⟩

theorem ints_ne {d : ByteArray} (h : digs (ints d) = true) : 0 < d.size := by
  rcases Nat.eq_zero_or_pos d.size with h0 | h0
  · exfalso
    have hl : ints d = [] := List.eq_nil_of_length_eq_zero (by rw [ints_length]; exact h0)
    rw [hl] at h; cases h
  · exact h0

theorem ints_head {d : ByteArray} (h : 0 < d.size) : (ints d).headD 0 = (d[0].toNat : Int) := by
  have := ints_drop d 0 h
  rw [List.drop_zero] at this
  rw [this]; rfl

set_option maxHeartbeats 400000 in
theorem isNumber_any (d : ByteArray) (w : World) (hd : d.size ≤ 1048576) : Calls Try.prog 27 #[.string d] w fun e w' => e = .returned (.bool (num (ints d))) ∧ w' = w := by
  have hc := isDigits_any d w hd
  cases hg : digs (ints d) with
  | false =>
    rw [hg] at hc
    rw [show num (ints d) = false by simp [num, hg]]
    clear hg
    go_enter Try.func27, Try.ntmps27
    go_wp2_with (go_at_call 26; refine hc.mono ?_; rintro e w' ⟨rfl, rfl⟩)
    go_ret
    exact ⟨rfl, rfl⟩
  | true =>
    rw [hg] at hc
    have hpos := ints_ne hg
    have hpos' : (0 : Int) < (d.size : Int) := by omega
    have hh := ints_head hpos
    by_cases h48 : (d[0].toNat : Int) = 48
    · by_cases h1 : d.size = 1
      · have HR : Hid (num (ints d) = true) := by unfold num; rw [hg, ints_length, h1]; simp [Hid]
        have hb : ((d[0].toNat : Int) != 48) = false := by simp [h48]
        have hb1 : ((d.size : Int) == 1) = true := by simp; omega
        clear hg hh h48 h1
        go_enter Try.func27, Try.ntmps27
        go_wp2_with (go_at_call 26; refine hc.mono ?_; rintro e w' ⟨rfl, rfl⟩)
        go_ret
        exact ⟨by rw [HR.out]; rfl, rfl⟩
      · have HR : Hid (num (ints d) = false) := by unfold num; rw [hg, ints_length, hh, h48]; simp [Hid, h1]
        have hb : ((d[0].toNat : Int) != 48) = false := by simp [h48]
        have hb1 : ((d.size : Int) == 1) = false := by simp; omega
        clear hg hh h48 h1
        go_enter Try.func27, Try.ntmps27
        go_wp2_with (go_at_call 26; refine hc.mono ?_; rintro e w' ⟨rfl, rfl⟩)
        go_ret
        exact ⟨by rw [HR.out]; rfl, rfl⟩
    · have HR : Hid (num (ints d) = true) := by unfold num; rw [hg, hh]; simp [Hid, h48]
      have hb : ((d[0].toNat : Int) != 48) = true := by simpa using h48
      clear hg hh h48
      go_enter Try.func27, Try.ntmps27
      go_wp2_with (go_at_call 26; refine hc.mono ?_; rintro e w' ⟨rfl, rfl⟩)
      go_ret
      exact ⟨by rw [HR.out]; rfl, rfl⟩

end Go.Proofs.Qxb6602850a.Walks
