/-
  THE WALK of scanIdents.
-/
import Derived.Test.Qxb6602850aSmall
namespace Go.Proofs.Qxb6602850a.Walks
open Go.RowKit Go.Proofs.Qxb6602850a.Plain
set_option linter.unusedVariables false
set_option linter.unusedSimpArgs false

/-- What holds at the head of each round: R is the answer of the whole. -/
def SI (strict : Bool) (s : ByteArray) (R : Bool) (k n : Nat) (d z : Bool) : Prop :=
  n ≤ k ∧ k ≤ s.size + 1 ∧ ((k ≤ s.size ∧ scan strict n d z ((ints s).drop k) = R) ∨ (k = s.size + 1 ∧ R = true))

/-- A piece ends at k (a dot, or the text's end). -/
theorem SI.close_no {strict : Bool} {s : ByteArray} {R : Bool} {k n : Nat} {d z : Bool} (h : SI strict s R k n d z) (hk : k ≤ s.size) (hend : k = s.size ∨ ∃ hk : k < s.size, (s[k].toNat : Int) = 46)
    (hc : close strict n d z = false) : R = false := by
  obtain ⟨_, _, ⟨_, h⟩ | ⟨h, _⟩⟩ := h
  · rw [← h]
    rcases hend with rfl | ⟨hk', h46⟩
    · rw [ints_drop_all, scan_nil, hc]
    · rw [ints_drop s k hk', h46, scan_dot, hc]; rfl
  · omega

theorem SI.close_yes {strict : Bool} {s : ByteArray} {R : Bool} {k n : Nat} {d z : Bool} (h : SI strict s R k n d z) (hk : k ≤ s.size) (hend : k = s.size ∨ ∃ hk : k < s.size, (s[k].toNat : Int) = 46)
    (hc : close strict n d z = true) : SI strict s R (k + 1) 0 true false := by
  obtain ⟨_, _, ⟨_, h⟩ | ⟨h, _⟩⟩ := h
  · refine ⟨by omega, by omega, ?_⟩
    rcases hend with rfl | ⟨hk', h46⟩
    · rw [ints_drop_all, scan_nil, hc] at h
      exact .inr ⟨rfl, h.symm⟩
    · rw [ints_drop s k hk', h46, scan_dot, hc, Bool.true_and] at h
      exact .inl ⟨by omega, h⟩
  · omega

theorem SI.bad {strict : Bool} {s : ByteArray} {R : Bool} {k n : Nat} {d z : Bool} (h : SI strict s R k n d z) (hk : k < s.size) (h46 : ¬ (s[k].toNat : Int) = 46) (hid : idI (s[k].toNat : Int) = false) : R = false := by
  obtain ⟨_, _, ⟨_, h⟩ | ⟨h, _⟩⟩ := h
  · rw [← h, ints_drop s k hk, scan_byte _ _ _ _ _ _ h46, hid]; rfl
  · omega

theorem SI.step {strict : Bool} {s : ByteArray} {R : Bool} {k n : Nat} {d z d' z' : Bool} (h : SI strict s R k n d z) (hk : k < s.size) (h46 : ¬ (s[k].toNat : Int) = 46) (hid : idI (s[k].toNat : Int) = true)
    (hd : d' = (d && digI (s[k].toNat : Int))) (hz : z' = if n = 0 then ((s[k].toNat : Int) == 48) else z) : SI strict s R (k + 1) (n + 1) d' z' := by
  obtain ⟨h1, h2, ⟨_, h⟩ | ⟨h, _⟩⟩ := h
  · refine ⟨by omega, by omega, .inl ⟨by omega, ?_⟩⟩
    rw [ints_drop s k hk, scan_byte _ _ _ _ _ _ h46, hid, Bool.true_and] at h
    rw [hd, hz]; exact h
  · omega

set_option maxHeartbeats 2000000 in
set_option maxRecDepth 100000 in
theorem scan_any (s : ByteArray) (strict : Bool) (w : World) (hs : s.size ≤ 1048576) :
    Calls Try.prog 11 #[.string s, .bool strict] w fun e w' => e = .returned (.bool (scan strict 0 true false (ints s))) ∧ w' = w := by
  obtain ⟨R, hR⟩ : ∃ R, R = scan strict 0 true false (ints s) := ⟨_, rfl⟩
  rw [← hR]
  have HR : Hid (R = scan strict 0 true false (ints s)) := hR
  clear hR
  go_enter Try.func11, Try.ntmps11
  go_wp2
  go_loop [5, 6, 7, 8] (fun a b c i => ∃ (k n : Nat) (d z : Bool), a = .int .i64 n ∧ b = .bool d ∧ c = .bool z ∧ i = .int .i64 k ∧ SI strict s R k n d z) (fun _ _ _ i => s.size + 1 - (intOf i).toNat)
  case atStart => exact ⟨0, 0, true, false, rfl, rfl, rfl, rfl, by omega, by omega, .inl ⟨by omega, HR.out.symm⟩⟩
  case round =>
    obtain ⟨k, n, d, z, rfl, rfl, rfl, rfl, hS⟩ := hrel
    have HS : Hid (SI strict s R k n d z) := hS
    have hnk : n ≤ k := hS.1
    have hk1 : k ≤ s.size + 1 := hS.2.1
    clear hS
    by_cases hks : s.size < k
    · have hRt : R = true := by
        rcases HS.out.2.2 with ⟨h, _⟩ | ⟨_, h⟩
        · omega
        · exact h
      subst hRt
      go_wp2
      go_ret
      exact ⟨rfl, rfl⟩
    · have hks' : k ≤ s.size := by omega
      clear hks
      by_cases hend : k = s.size ∨ ∃ hk : k < s.size, (s[k].toNat : Int) = 46
      · have HE : Hid (k = s.size ∨ ∃ hk : k < s.size, (s[k].toNat : Int) = 46) := hend
        rcases hend with hke | ⟨hlt, h46⟩
        · subst hke
          by_cases hn0 : n = 0
          · have hRf := HS.out.close_no hks' HE.out (by simp [close, hn0])
            subst hRf
            subst hn0
            go_wp2
            go_ret
            exact ⟨rfl, rfl⟩
          · have hn0' : ((n : Int) == 0) = false := by simp; omega
            by_cases hall : strict = true ∧ d = true ∧ z = true ∧ 1 < n
            · obtain ⟨rfl, rfl, rfl, h1⟩ := hall
              have hRf := HS.out.close_no hks' HE.out (by simp [close, h1])
              subst hRf
              go_wp2
              go_ret
              exact ⟨rfl, rfl⟩
            · have HN : Hid (SI strict s R (s.size + 1) 0 true false) := HS.out.close_yes hks' HE.out (by
                unfold close
                rw [show (n == 0) = false by simpa using hn0]
                cases strict <;> cases d <;> cases z <;> simp at hall ⊢
                omega)
              clear HS
              cases strict with
              | false =>
                go_wp2
                go_round
                case rel => exact ⟨s.size + 1, 0, true, false, rfl, rfl, rfl, by go_num, HN.out⟩
                case measure => simp [intOf]
              | true =>
                cases d with
                | false =>
                  go_wp2
                  go_round
                  case rel => exact ⟨s.size + 1, 0, true, false, rfl, rfl, rfl, by go_num, HN.out⟩
                  case measure => simp [intOf]
                | true =>
                  cases z with
                  | false =>
                    go_wp2
                    go_round
                    case rel => exact ⟨s.size + 1, 0, true, false, rfl, rfl, rfl, by go_num, HN.out⟩
                    case measure => simp [intOf]
                  | true =>
                    have h1 : n ≤ 1 := by simp at hall; omega
                    clear hall
                    go_wp2
                    go_round
                    case rel => exact ⟨s.size + 1, 0, true, false, rfl, rfl, rfl, by go_num, HN.out⟩
                    case measure => simp [intOf]
        · have hb46 : ((s[k].toNat : Int) == 46) = true := by simpa using h46
          clear h46
          by_cases hn0 : n = 0
          · have hRf := HS.out.close_no hks' HE.out (by simp [close, hn0])
            subst hRf
            subst hn0
            go_wp2
            go_ret
            exact ⟨rfl, rfl⟩
          · have hn0' : ((n : Int) == 0) = false := by simp; omega
            by_cases hall : strict = true ∧ d = true ∧ z = true ∧ 1 < n
            · obtain ⟨rfl, rfl, rfl, h1⟩ := hall
              have hRf := HS.out.close_no hks' HE.out (by simp [close, h1])
              subst hRf
              go_wp2
              go_ret
              exact ⟨rfl, rfl⟩
            · have HN : Hid (SI strict s R (k + 1) 0 true false) := HS.out.close_yes hks' HE.out (by
                unfold close
                rw [show (n == 0) = false by simpa using hn0]
                cases strict <;> cases d <;> cases z <;> simp at hall ⊢
                omega)
              clear HS
              cases strict with
              | false =>
                go_wp2
                go_round
                case rel => exact ⟨k + 1, 0, true, false, rfl, rfl, rfl, by go_num, HN.out⟩
                case measure => simp [intOf]; omega
              | true =>
                cases d with
                | false =>
                  go_wp2
                  go_round
                  case rel => exact ⟨k + 1, 0, true, false, rfl, rfl, rfl, by go_num, HN.out⟩
                  case measure => simp [intOf]; omega
                | true =>
                  cases z with
                  | false =>
                    go_wp2
                    go_round
                    case rel => exact ⟨k + 1, 0, true, false, rfl, rfl, rfl, by go_num, HN.out⟩
                    case measure => simp [intOf]; omega
                  | true =>
                    have h1 : n ≤ 1 := by simp at hall; omega
                    clear hall
                    go_wp2
                    go_round
                    case rel => exact ⟨k + 1, 0, true, false, rfl, rfl, rfl, by go_num, HN.out⟩
                    case measure => simp [intOf]; omega
      · have hlt : k < s.size := by
          rcases Nat.lt_or_ge k s.size with h | h
          · exact h
          · exact absurd (.inl (by omega)) hend
        have h46 : ¬ (s[k].toNat : Int) = 46 := fun h => hend (.inr ⟨hlt, h⟩)
        have hb46 : ((s[k].toNat : Int) == 46) = false := by simpa using h46
        clear hend
        cases hid : idI (s[k].toNat : Int) with
        | false =>
          have hRf := HS.out.bad hlt h46 hid
          subst hRf
          clear h46
          go_wp2_with (first | (go_at_call 21; refine (isIdent_any _ _).mono ?_; rintro e w' ⟨rfl, rfl⟩) | (go_at_call 22; refine (isDec_any _ _).mono ?_; rintro e w' ⟨rfl, rfl⟩))
          go_ret
          exact ⟨rfl, rfl⟩
        | true =>
          have HN := fun d' z' => HS.out.step (d' := d') (z' := z') hlt h46 hid
          clear h46
          cases hdg : digI (s[k].toNat : Int) with
          | true =>
            by_cases hn0 : n = 0
            · subst hn0
              have HN' : Hid (SI strict s R (k + 1) 1 d ((s[k].toNat : Int) == 48)) := HN _ _ (by simp [hdg]) (by simp)
              clear HN
              go_wp2_with (first | (go_at_call 21; refine (isIdent_any _ _).mono ?_; rintro e w' ⟨rfl, rfl⟩) | (go_at_call 22; refine (isDec_any _ _).mono ?_; rintro e w' ⟨rfl, rfl⟩))
              go_round
              case rel => exact ⟨k + 1, 1, d, _, rfl, rfl, rfl, by go_num, HN'.out⟩
              case measure => simp [intOf]; omega
            · have HN' : Hid (SI strict s R (k + 1) (n + 1) d z) := HN _ _ (by simp [hdg]) (by simp [hn0])
              have hn0' : ((n : Int) == 0) = false := by simp; omega
              clear HN
              go_wp2_with (first | (go_at_call 21; refine (isIdent_any _ _).mono ?_; rintro e w' ⟨rfl, rfl⟩) | (go_at_call 22; refine (isDec_any _ _).mono ?_; rintro e w' ⟨rfl, rfl⟩))
              go_round
              case rel => exact ⟨k + 1, n + 1, d, z, by go_num, rfl, rfl, by go_num, HN'.out⟩
              case measure => simp [intOf]; omega
          | false =>
            by_cases hn0 : n = 0
            · subst hn0
              have HN' : Hid (SI strict s R (k + 1) 1 false ((s[k].toNat : Int) == 48)) := HN _ _ (by simp [hdg]) (by simp)
              clear HN
              go_wp2_with (first | (go_at_call 21; refine (isIdent_any _ _).mono ?_; rintro e w' ⟨rfl, rfl⟩) | (go_at_call 22; refine (isDec_any _ _).mono ?_; rintro e w' ⟨rfl, rfl⟩))
              go_round
              case rel => exact ⟨k + 1, 1, false, _, rfl, rfl, rfl, by go_num, HN'.out⟩
              case measure => simp [intOf]; omega
            · have HN' : Hid (SI strict s R (k + 1) (n + 1) false z) := HN _ _ (by simp [hdg]) (by simp [hn0])
              have hn0' : ((n : Int) == 0) = false := by simp; omega
              clear HN
              go_wp2_with (first | (go_at_call 21; refine (isIdent_any _ _).mono ?_; rintro e w' ⟨rfl, rfl⟩) | (go_at_call 22; refine (isDec_any _ _).mono ?_; rintro e w' ⟨rfl, rfl⟩))
              go_round
              case rel => exact ⟨k + 1, n + 1, false, z, by go_num, rfl, rfl, by go_num, HN'.out⟩
              case measure => simp [intOf]; omega

end Go.Proofs.Qxb6602850a.Walks
