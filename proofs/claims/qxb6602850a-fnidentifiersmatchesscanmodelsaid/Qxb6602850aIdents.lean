/-
  THE WALK of identifiers, and of the law.
-/
import Derived.Test.Qxb6602850aScan
namespace Go.Proofs.Qxb6602850a.Walks
open Go.RowKit Go.Proofs.Qxb6602850a.Plain
set_option linter.unusedVariables false
set_option linter.unusedSimpArgs false

/-- The size of a string in a slot: for the loop's measure. -/
def strSize : Value → Nat
  | .string s => s.size
  | _ => 0

theorem ids_step {d : ByteArray} {k : Nat} (hk : k < d.size) (h : ∀ j, j < k → (ints d)[j]?.any idI = true) (hd : idI (d[k].toNat : Int) = true) : ∀ j, j < k + 1 → (ints d)[j]?.any idI = true := by
  intro j hj
  by_cases e : j = k
  · subst e; rw [ints_get d j hk]; simpa using hd
  · exact h j (by omega)

theorem piece_bad {strict : Bool} {d : ByteArray} (h : (ints d).all idI = false) : piece strict (ints d) = false := by simp [piece, h]

theorem beq45 {x : Int} (h : (x == 45) = true) : x = 45 := by simpa using h
theorem bne45 {x : Int} (h : (x == 45) = false) : ¬ x = 45 := by simpa using h

set_option maxHeartbeats 4000000 in
set_option maxRecDepth 100000 in
theorem idents_any (s : ByteArray) (strict : Bool) (w : World) (hs : s.size ≤ 1048576) :
    Calls Try.prog 20 #[.string s, .bool strict] w fun e w' => e = .returned (.bool (scan strict 0 true false (ints s))) ∧ ∃ q, w' = w.drewN q := by
  obtain ⟨R, hR⟩ : ∃ R, R = scan strict 0 true false (ints s) := ⟨_, rfl⟩
  rw [← hR]
  have HR : Hid (R = scan strict 0 true false (ints s)) := hR
  clear hR
  go_enter Try.func20, Try.ntmps20
  go_wp2
  go_loopw [0] (fun v wr => ∃ t : ByteArray, v = .string t ∧ t.size ≤ 1048576 ∧ scan strict 0 true false (ints t) = R ∧ ∃ q, wr = w.drewN q) (fun v _ => strSize v)
  case atStart => exact ⟨s, rfl, hs, HR.out.symm, 0, rfl⟩
  case round =>
    obtain ⟨t, rfl, ht, hT, q0, rfl⟩ := hrel
    have HT : Hid (scan strict 0 true false (ints t) = R) := hT
    clear hT
    obtain ⟨d, r, m, hC⟩ := cut3_exists t
    obtain ⟨hsd, hsr, hsm⟩ := hC.size
    have HSM : Hid (m = true → r.size < t.size) := hsm
    have HP : Hid ((piece strict (ints d) && (!m || scan strict 0 true false (ints r))) = R) := by rw [Hid, ← hC.scan strict]; exact HT.out
    have hcut := cut_any t d r m (w.drewN q0) ht hC
    clear hC hsm HT
    by_cases h0 : d.size = 0
    · have he : d.toList = [] := by rw [Lib.toList_data]; apply List.eq_nil_of_length_eq_zero; rw [← Lib.size_eq]; exact h0
      have hRf : R = false := by
        rw [← HP.out]
        have hl : ints d = [] := List.eq_nil_of_length_eq_zero (by rw [ints_length]; exact h0)
        rw [hl]; rfl
      subst hRf
      go_wp2_with (first | (go_at_call 25; refine hcut.mono ?_; rintro e w' ⟨rfl, q, rfl⟩))
      go_ret
      exact ⟨rfl, _, rfl⟩
    · have he : d.toList.isEmpty = false := by
        rw [Lib.toList_data]
        cases hh : d.data.toList with
        | nil => exfalso; apply h0; rw [Lib.size_eq, hh]; rfl
        | cons a b => rfl
      have hdig := fun W => isDigits_any d W (by omega)
      have hnum := fun W => isNumber_any d W (by omega)
      by_cases hbad : strict = true ∧ digs (ints d) = true ∧ num (ints d) = false
      · obtain ⟨rfl, hg, hm⟩ := hbad
        have hRf : R = false := by rw [← HP.out]; simp [piece, hg, hm]
        subst hRf
        rw [hg] at hdig
        rw [hm] at hnum
        clear hg hm
        go_wp2_with (first | (go_at_call 25; refine hcut.mono ?_; rintro e w' ⟨rfl, q, rfl⟩) | (go_at_call 26; refine (hdig _).mono ?_; rintro e w' ⟨rfl, rfl⟩) | (go_at_call 27; refine (hnum _).mono ?_; rintro e w' ⟨rfl, rfl⟩))
        go_ret
        exact ⟨rfl, _, rfl⟩
      · have HPC : Hid (piece strict (ints d) = (ints d).all idI) := by
          rw [Hid, piece]
          have hne : (ints d).isEmpty = false := by
            cases hh : ints d with
            | nil => exfalso; apply h0; rw [← ints_length, hh]; rfl
            | cons a b => rfl
          rw [hne]
          cases strict <;> cases hg : digs (ints d) <;> cases hm : num (ints d) <;> simp_all
        have hways : strict = false ∨ (strict = true ∧ digs (ints d) = false) ∨ (strict = true ∧ digs (ints d) = true ∧ num (ints d) = true) := by
          cases strict <;> cases hg : digs (ints d) <;> cases hm : num (ints d) <;> simp_all
        clear hbad
        have HALL : Hid ((ints d).all idI = true → (!m || scan strict 0 true false (ints r)) = R) := fun h => by have := HP.out; rw [HPC.out, h, Bool.true_and] at this; exact this
        have HBAD : Hid ((ints d).all idI = false → R = false) := fun h => by have := HP.out; rw [HPC.out, h, Bool.false_and] at this; exact this.symm
        clear HP HPC
        rcases hways with rfl | ⟨rfl, hg⟩ | ⟨rfl, hg, hm⟩
        all_goals
          try rw [hg] at hdig
          try rw [hm] at hnum
          try clear hg
          try clear hm
          go_wp2_with (first | (go_at_call 25; refine hcut.mono ?_; rintro e w' ⟨rfl, q, rfl⟩) | (go_at_call 26; refine (hdig _).mono ?_; rintro e w' ⟨rfl, rfl⟩) | (go_at_call 27; refine (hnum _).mono ?_; rintro e w' ⟨rfl, rfl⟩))
          clear hcut hdig hnum
          go_loop [32] (fun i => ∃ k : Nat, k ≤ d.size ∧ i = .int .i64 k ∧ ∀ j, j < k → (ints d)[j]?.any idI = true) (fun i => d.size - (intOf i).toNat)
          case atStart => exact ⟨0, Nat.zero_le _, rfl, fun j hj => by omega⟩
          case round =>
            obtain ⟨k, hk, rfl, hall⟩ := hrel
            have HA : Hid (∀ j, j < k → (ints d)[j]?.any idI = true) := hall
            clear hall
            by_cases hlt : k < d.size
            · have hx0 : (0 : Int) ≤ (d[k].toNat : Int) := by omega
              cases hid : idI (d[k].toNat : Int) with
              | true =>
                have HN : Hid (∀ j, j < k + 1 → (ints d)[j]?.any idI = true) := ids_step hlt HA.out hid
                have hcl := idI_iff.1 hid
                clear hid HA
                have hdg : digI (d[k].toNat : Int) = decide (48 ≤ (d[k].toNat : Int) ∧ (d[k].toNat : Int) ≤ 57) := rfl
                rcases hcl with ⟨h1, h2⟩ | h1 | ⟨h1, h2⟩ | ⟨h1, h2⟩
                · have hdg' : digI (d[k].toNat : Int) = true := digI_t ⟨h1, h2⟩
                  clear hdg
                  go_wp2_with (go_at_call 28; refine (isDigit_any _ _).mono ?_; rintro e w' ⟨rfl, rfl⟩)
                  go_round
                  case rel => exact ⟨k + 1, by omega, by go_num, HN.out⟩
                  case measure => simp [intOf]; omega
                · have hdg' : digI (d[k].toNat : Int) = false := digI_f (by omega)
                  have h45 : ((d[k].toNat : Int) == 45) = true := by simpa using h1
                  have h3 : (d[k].toNat : Int) < 48 := by omega
                  clear hdg h1
                  go_wp2_with (go_at_call 28; refine (isDigit_any _ _).mono ?_; rintro e w' ⟨rfl, rfl⟩)
                  go_round
                  case rel => exact ⟨k + 1, by omega, by go_num, HN.out⟩
                  case measure => simp [intOf]; omega
                · clear hdg
                  go_wp2_with (go_at_call 28; refine (isDigit_any _ _).mono ?_; rintro e w' ⟨rfl, rfl⟩)
                  go_round
                  case rel => exact ⟨k + 1, by omega, by go_num, HN.out⟩
                  case measure => simp [intOf]; omega
                · clear hdg
                  go_wp2_with (go_at_call 28; refine (isDigit_any _ _).mono ?_; rintro e w' ⟨rfl, rfl⟩)
                  go_round
                  case rel => exact ⟨k + 1, by omega, by go_num, HN.out⟩
                  case measure => simp [intOf]; omega
              | false =>
                have hRf := HBAD.out (all_not hlt hid)
                subst hRf
                have hcl : ¬ ((48 ≤ (d[k].toNat : Int) ∧ (d[k].toNat : Int) ≤ 57) ∨ (d[k].toNat : Int) = 45 ∨ (97 ≤ (d[k].toNat : Int) ∧ (d[k].toNat : Int) ≤ 122) ∨ (65 ≤ (d[k].toNat : Int) ∧ (d[k].toNat : Int) ≤ 90)) := fun h => by rw [idI_t h] at hid; cases hid
                have hdg' : digI (d[k].toNat : Int) = false := digI_f (by omega)
                have h45 : ((d[k].toNat : Int) == 45) = false := by simp; omega
                clear hid HA
                rcases (by omega : (d[k].toNat : Int) < 65 ∨ (90 < (d[k].toNat : Int) ∧ (d[k].toNat : Int) < 97) ∨ 122 < (d[k].toNat : Int)) with h1 | ⟨h1, h2⟩ | h1
                · clear hcl
                  have e1 : decide ((97 : Int) ≤ (d[k].toNat : Int)) = false := decide_eq_false (by omega)
                  have e3 : decide ((65 : Int) ≤ (d[k].toNat : Int)) = false := decide_eq_false (by omega)
                  go_wp2_with (go_at_call 28; refine (isDigit_any _ _).mono ?_; rintro e w' ⟨rfl, rfl⟩)
                  go_ret
                  exact ⟨rfl, _, rfl⟩
                · clear hcl
                  have e1 : decide ((97 : Int) ≤ (d[k].toNat : Int)) = false := decide_eq_false (by omega)
                  have e4 : decide ((d[k].toNat : Int) ≤ (90 : Int)) = false := decide_eq_false (by omega)
                  go_wp2_with (go_at_call 28; refine (isDigit_any _ _).mono ?_; rintro e w' ⟨rfl, rfl⟩)
                  go_ret
                  exact ⟨rfl, _, rfl⟩
                · clear hcl
                  have e2 : decide ((d[k].toNat : Int) ≤ (122 : Int)) = false := decide_eq_false (by omega)
                  have e4 : decide ((d[k].toNat : Int) ≤ (90 : Int)) = false := decide_eq_false (by omega)
                  go_wp2_with (go_at_call 28; refine (isDigit_any _ _).mono ?_; rintro e w' ⟨rfl, rfl⟩)
                  go_ret
                  exact ⟨rfl, _, rfl⟩
            · have hfin := HALL.out (all_of (fun j hj => HA.out j (by omega)))
              clear HA
              cases m with
              | false =>
                have hRt : R = true := by rw [← hfin]; rfl
                subst hRt
                clear hfin
                go_wp2
                go_ret
                exact ⟨rfl, _, rfl⟩
              | true =>
                have HF : Hid ((!true || scan _ 0 true false (ints r)) = R) := hfin
                have hlt2 : r.size < t.size := HSM.out rfl
                clear hfin
                go_wp2
                go_roundw
                case rel => exact ⟨r, rfl, by omega, by simpa using HF.out, _, rfl⟩
                case measure => simpa [strSize] using hlt2

theorem zzidents_any (s : ByteArray) (strict : Bool) (w : World) (hs : s.size ≤ 1048576) :
    Calls Try.prog 10 #[.string s, .bool strict] w fun e w' => e = .returned (.bool (scan strict 0 true false (ints s))) ∧ ∃ q, w' = w.drewN q := by
  have hc := idents_any s strict w hs
  go_enter Try.func10, Try.ntmps10
  go_wp2_with (go_at_call 20; refine hc.mono ?_; rintro e w' ⟨rfl, q, rfl⟩)
  go_ret
  exact ⟨rfl, q, rfl⟩

theorem law_long (s : ByteArray) (strict : Bool) (w : World) (hs : 1048576 < s.size) (hm : s.size ≤ 9223372036854775807) :
    Calls Try.prog 3 #[.string s, .bool strict] w fun e w' => e = .returned (.bool true) ∧ ∃ q, w' = w.drewN q := by
  go_enter Try.func3, Try.ntmps3
  go_wp2
  go_ret
  exact ⟨rfl, 0, rfl⟩

theorem law_short (s : ByteArray) (strict : Bool) (w : World) (hs : s.size ≤ 1048576) :
    Calls Try.prog 3 #[.string s, .bool strict] w fun e w' => e = .returned (.bool true) ∧ ∃ q, w' = w.drewN q := by
  have hc := zzidents_any s strict w hs
  have hd := fun W => scan_any s strict W hs
  obtain ⟨R, hR⟩ : ∃ R, R = scan strict 0 true false (ints s) := ⟨_, rfl⟩
  rw [← hR] at hc hd
  clear hR
  go_enter Try.func3, Try.ntmps3
  go_wp2_with (first
    | (go_at_call 10; refine hc.mono ?_; rintro e w' ⟨rfl, q, rfl⟩)
    | (go_at_call 11; refine (hd _).mono ?_; rintro e w' ⟨rfl, rfl⟩)
    | (go_at_call 9; go_in))
  go_ret
  exact ⟨by cases R <;> rfl, q, rfl⟩

end Go.Proofs.Qxb6602850a.Walks
