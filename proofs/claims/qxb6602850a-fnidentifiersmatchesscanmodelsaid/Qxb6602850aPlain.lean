/-
  PLAIN MATHEMATICS of the seat b6602850a: identifiers joined by dots, read off by one pass. No Go in sight.
-/
import Derived.Lib.IndexLaws
import Derived.Lib.Strings
namespace Go.Proofs.Qxb6602850a.Plain

def digI (x : Int) : Bool := decide (48 ≤ x ∧ x ≤ 57)
def idI (x : Int) : Bool := decide ((48 ≤ x ∧ x ≤ 57) ∨ x = 45 ∨ (97 ≤ x ∧ x ≤ 122) ∨ (65 ≤ x ∧ x ≤ 90))

theorem digI_t {x : Int} (h : 48 ≤ x ∧ x ≤ 57) : digI x = true := by simp [digI, h]
theorem digI_f {x : Int} (h : ¬ (48 ≤ x ∧ x ≤ 57)) : digI x = false := by simp only [digI, decide_eq_false_iff_not]; exact h
theorem idI_t {x : Int} (h : (48 ≤ x ∧ x ≤ 57) ∨ x = 45 ∨ (97 ≤ x ∧ x ≤ 122) ∨ (65 ≤ x ∧ x ≤ 90)) : idI x = true := by simp only [idI, decide_eq_true_eq]; exact h
theorem idI_f {x : Int} (h : ¬ ((48 ≤ x ∧ x ≤ 57) ∨ x = 45 ∨ (97 ≤ x ∧ x ≤ 122) ∨ (65 ≤ x ∧ x ≤ 90))) : idI x = false := by simp only [idI, decide_eq_false_iff_not]; exact h
theorem digI_iff {x : Int} : digI x = true ↔ (48 ≤ x ∧ x ≤ 57) := by simp [digI]
theorem idI_iff {x : Int} : idI x = true ↔ ((48 ≤ x ∧ x ≤ 57) ∨ x = 45 ∨ (97 ≤ x ∧ x ≤ 122) ∨ (65 ≤ x ∧ x ≤ 90)) := by simp [idI]

/-- The bytes of a string as numbers. -/
def ints (s : ByteArray) : List Int := s.data.toList.map fun c => (c.toNat : Int)

theorem ints_length (s : ByteArray) : (ints s).length = s.size := by unfold ints; rw [List.length_map, ← Lib.size_eq]

theorem ints_get (s : ByteArray) (k : Nat) (h : k < s.size) : (ints s)[k]? = some (s[k].toNat : Int) := by
  have hk : k < s.data.toList.length := by rw [← Lib.size_eq]; exact h
  simp only [ints, List.getElem?_map, List.getElem?_eq_getElem hk, Option.map_some]
  rfl

theorem ints_drop (s : ByteArray) (k : Nat) (h : k < s.size) : (ints s).drop k = (s[k].toNat : Int) :: (ints s).drop (k + 1) := by
  have hk : k < (ints s).length := by rw [ints_length]; exact h
  rw [List.drop_eq_getElem_cons hk]
  congr 1
  have := ints_get s k h
  rw [List.getElem?_eq_getElem hk] at this
  exact Option.some.inj this

theorem ints_drop_all (s : ByteArray) : (ints s).drop s.size = [] := by
  rw [List.drop_eq_nil_iff, ints_length]; exact Nat.le_refl _

/-- A piece ends: n bytes, all digits (d), it opens with a zero (z). -/
def close (strict : Bool) (n : Nat) (d z : Bool) : Bool := !(n == 0) && !(strict && d && z && decide (1 < n))

/-- One pass over the bytes. -/
def scan (strict : Bool) : Nat → Bool → Bool → List Int → Bool
  | n, d, z, [] => close strict n d z
  | n, d, z, x :: r => if x = 46 then close strict n d z && scan strict 0 true false r else idI x && scan strict (n + 1) (d && digI x) (if n = 0 then x == 48 else z) r

theorem scan_nil (strict : Bool) (n : Nat) (d z : Bool) : scan strict n d z [] = close strict n d z := rfl
theorem scan_dot (strict : Bool) (n : Nat) (d z : Bool) (r : List Int) : scan strict n d z (46 :: r) = (close strict n d z && scan strict 0 true false r) := by simp [scan]
theorem scan_byte (strict : Bool) (n : Nat) (d z : Bool) (x : Int) (r : List Int) (h : x ≠ 46) : scan strict n d z (x :: r) = (idI x && scan strict (n + 1) (d && digI x) (if n = 0 then x == 48 else z) r) := by simp [scan, h]

/-- What follows a piece: the end, or a dot and more. -/
def tailOk (strict : Bool) : List Int → Bool
  | [] => true
  | _ :: r => scan strict 0 true false r

theorem scan_piece (strict : Bool) (t : List Int) (ht : t = [] ∨ ∃ r, t = 46 :: r) : ∀ (p : List Int) (n : Nat) (d z : Bool), (∀ x ∈ p, x ≠ 46) →
    scan strict n d z (p ++ t) = (p.all idI && close strict (n + p.length) (d && p.all digI) (if n = 0 then (match p with | [] => z | x :: _ => x == 48) else z) && tailOk strict t)
  | [], n, d, z, _ => by
    rcases ht with rfl | ⟨r, rfl⟩
    · simp [scan_nil, tailOk]
    · simp [scan_dot, tailOk]
  | x :: p, n, d, z, h => by
    rw [List.cons_append, scan_byte strict n d z x _ (h x (by simp)), scan_piece strict t ht p (n + 1) (d && digI x) _ (fun y hy => h y (by simp [hy]))]
    have e : n + 1 + p.length = n + (x :: p).length := by simp; omega
    rw [e]
    simp [Bool.and_assoc]

def digs (l : List Int) : Bool := !l.isEmpty && l.all digI
def num (l : List Int) : Bool := digs l && (!(l.headD 0 == 48) || l.length == 1)

/-- One piece is fit. -/
def piece (strict : Bool) (l : List Int) : Bool := !l.isEmpty && !(strict && digs l && !num l) && l.all idI

theorem scan_cut (strict : Bool) (p t : List Int) (ht : t = [] ∨ ∃ r, t = 46 :: r) (hp : ∀ x ∈ p, x ≠ 46) : scan strict 0 true false (p ++ t) = (piece strict p && tailOk strict t) := by
  rw [scan_piece strict t ht p 0 true false hp]
  congr 1
  cases p with
  | nil => simp [piece, close]
  | cons x r =>
    simp only [piece, close, digs, num, List.isEmpty_cons, Bool.not_false, Bool.true_and, List.headD_cons, if_true, Nat.zero_add]
    have e : ((x :: r).length == 0) = false := by simp
    rw [e]
    have e2 : decide (1 < (x :: r).length) = !((x :: r).length == 1) := by
      have : (x :: r).length = r.length + 1 := rfl
      rw [this]
      cases r.length with
      | zero => rfl
      | succ k => simp
    rw [e2]
    cases strict <;> cases (x :: r).all digI <;> cases (x == 48) <;> cases ((x :: r).length == 1) <;> cases (x :: r).all idI <;> rfl

/-- strings.Cut at a dot: the piece d, the rest r, whether there is more. -/
def Cut3 (t d r : ByteArray) (m : Bool) : Prop :=
  (∃ i : Nat, i < t.size ∧ Lib.indexByte t.data.toList 46 = (i : Int) ∧ d = t.extract 0 i ∧ r = t.extract (i + 1) t.size ∧ m = true) ∨
  (Lib.indexByte t.data.toList 46 = -1 ∧ d = t ∧ r = ⟨#[]⟩ ∧ m = false)

theorem cut3_exists (t : ByteArray) : ∃ d r m, Cut3 t d r m := by
  have hge := Lib.indexByte_ge t.data.toList 46
  by_cases h : Lib.indexByte t.data.toList 46 = -1
  · exact ⟨t, ⟨#[]⟩, false, .inr ⟨h, rfl, rfl, rfl⟩⟩
  · obtain ⟨i, hi⟩ : ∃ i : Nat, Lib.indexByte t.data.toList 46 = (i : Int) := ⟨(Lib.indexByte t.data.toList 46).toNat, by omega⟩
    have h1 := (Lib.indexByte_some hi).1
    have hlt : i < t.size := by rw [Lib.size_eq]; exact (List.getElem?_eq_some_iff.1 h1).1
    exact ⟨_, _, true, .inl ⟨i, hlt, hi, rfl, rfl, rfl⟩⟩

theorem ints_extract (t : ByteArray) (a b : Nat) : ints (t.extract a b) = ((ints t).drop a).take (b - a) := by
  unfold ints
  rw [Lib.extract_data, List.map_take, List.map_drop]

theorem dot_eq (c : UInt8) : ((c.toNat : Int) = 46) ↔ c = 46 := by
  constructor
  · intro h
    have : c.toNat = (46 : UInt8).toNat := by simp; omega
    exact UInt8.toNat_inj.1 this
  · intro h; subst h; rfl

theorem Cut3.size {t d r : ByteArray} {m : Bool} (h : Cut3 t d r m) : d.size ≤ t.size ∧ r.size ≤ t.size ∧ (m = true → r.size < t.size) := by
  rcases h with ⟨i, h1, h2, rfl, rfl, rfl⟩ | ⟨h1, rfl, rfl, rfl⟩
  · simp only [ByteArray.size_extract]; omega
  · exact ⟨Nat.le_refl _, Nat.zero_le _, fun h => by cases h⟩

theorem Cut3.scan {t d r : ByteArray} {m : Bool} (h : Cut3 t d r m) (strict : Bool) :
    Plain.scan strict 0 true false (ints t) = (piece strict (ints d) && (!m || Plain.scan strict 0 true false (ints r))) := by
  rcases h with ⟨i, h1, h2, rfl, rfl, rfl⟩ | ⟨h1, rfl, rfl, rfl⟩
  · obtain ⟨g1, g2⟩ := Lib.indexByte_some h2
    have hi : i < (ints t).length := by rw [ints_length]; exact h1
    have hx : (t[i].toNat : Int) = 46 := by
      rw [dot_eq]
      have hk : i < t.data.toList.length := by rw [← Lib.size_eq]; exact h1
      rw [List.getElem?_eq_getElem hk] at g1
      exact Option.some.inj g1
    have e1 : ints t = (ints t).take i ++ 46 :: (ints t).drop (i + 1) := by
      conv => lhs; rw [← List.take_append_drop i (ints t), ints_drop t i h1, hx]
    have ed : ints (t.extract 0 i) = (ints t).take i := by rw [ints_extract]; simp
    have er : ints (t.extract (i + 1) t.size) = (ints t).drop (i + 1) := by
      rw [ints_extract]; apply List.take_of_length_le; simp [ints_length]
    rw [ed, er]
    conv => lhs; rw [e1]
    rw [scan_cut strict _ _ (.inr ⟨_, rfl⟩)]
    · simp [tailOk]
    · intro x hx' e
      obtain ⟨j, hj, he⟩ := List.getElem_of_mem hx'
      simp only [List.length_take] at hj
      rw [List.getElem_take] at he
      have hjs : j < t.size := by rw [← ints_length]; omega
      have hg := ints_get t j hjs
      rw [List.getElem?_eq_getElem (by rw [ints_length]; exact hjs), he, e] at hg
      have : t[j] = 46 := (dot_eq _).1 (Option.some.inj hg).symm
      refine g2 j (by omega) ?_
      have hk : j < t.data.toList.length := by rw [← Lib.size_eq]; exact hjs
      rw [List.getElem?_eq_getElem hk]
      exact congrArg some this
  · have := scan_cut strict (ints d) [] (.inl rfl) (fun x hx' e => by
      obtain ⟨j, hj, he⟩ := List.getElem_of_mem hx'
      have hjs : j < d.size := by rw [← ints_length]; omega
      have hg := ints_get d j hjs
      rw [List.getElem?_eq_getElem hj, he, e] at hg
      have h46 : d[j] = 46 := (dot_eq _).1 (Option.some.inj hg).symm
      refine Lib.indexByte_none h1 j ?_
      have hk : j < d.data.toList.length := by rw [← Lib.size_eq]; exact hjs
      rw [List.getElem?_eq_getElem hk]
      exact congrArg some h46)
    rw [List.append_nil] at this
    rw [this]
    simp [tailOk]

end Go.Proofs.Qxb6602850a.Plain
