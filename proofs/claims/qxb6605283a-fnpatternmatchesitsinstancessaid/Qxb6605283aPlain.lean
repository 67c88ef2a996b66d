/-
  PLAIN MATHEMATICS of the seat b6605283a: paths split at slashes, patterns over the pieces. No Go in sight.
-/
import Derived.Lib.IndexLaws
import Derived.Lib.Strings
namespace Go.Proofs.Qxb6605283a.Plain

/-- The bytes of a string. -/
def L (s : ByteArray) : List UInt8 := s.data.toList

theorem L_size (s : ByteArray) : (L s).length = s.size := (Lib.size_eq s).symm

theorem L_toList (s : ByteArray) : s.toList = L s := Lib.toList_data s

theorem L_get (s : ByteArray) (k : Nat) (h : k < s.size) : (L s)[k]? = some s[k] := by
  have hk : k < s.data.toList.length := by rw [← Lib.size_eq]; exact h
  unfold L
  rw [List.getElem?_eq_getElem hk]
  rfl

theorem L_drop (s : ByteArray) (k : Nat) (h : k < s.size) : (L s).drop k = s[k] :: (L s).drop (k + 1) := by
  have hk : k < (L s).length := by rw [L_size]; exact h
  rw [List.drop_eq_getElem_cons hk]
  rfl

theorem L_extract (t : ByteArray) (a b : Nat) : L (t.extract a b) = ((L t).drop a).take (b - a) := Lib.extract_data t a b

theorem L_extract_end (t : ByteArray) (a : Nat) : L (t.extract a t.size) = (L t).drop a := by
  rw [L_extract]; apply List.take_of_length_le; simp [L_size]

/-- A text split at every slash; at least one piece. -/
def split : List UInt8 → List (List UInt8)
  | [] => [[]]
  | c :: r => if c = 47 then [] :: split r else match split r with
    | p :: ps => (c :: p) :: ps
    | [] => [[c]]

theorem split_ne (l : List UInt8) : split l ≠ [] := by
  cases l with
  | nil => simp [split]
  | cons c r =>
    unfold split
    split
    · simp
    · split <;> simp

theorem split_slash (r : List UInt8) : split (47 :: r) = [] :: split r := by simp [split]

theorem split_piece : ∀ (p : List UInt8) (r : List UInt8), (∀ x ∈ p, x ≠ 47) → split (p ++ 47 :: r) = p :: split r
  | [], r, _ => split_slash r
  | c :: p, r, h => by
    have ih := split_piece p r (fun x hx => h x (by simp [hx]))
    rw [List.cons_append]
    have hc : c ≠ 47 := h c (by simp)
    simp [split, hc, ih]

theorem split_last : ∀ (p : List UInt8), (∀ x ∈ p, x ≠ 47) → split p = [p]
  | [], _ => rfl
  | c :: p, h => by
    have ih := split_last p (fun x hx => h x (by simp [hx]))
    have hc : c ≠ 47 := h c (by simp)
    simp [split, hc, ih]

theorem split_length : ∀ (l : List UInt8), (split l).length ≤ l.length + 1
  | [] => by simp [split]
  | c :: r => by
    have ih := split_length r
    unfold split
    split
    · simp; omega
    · split
      · rename_i p ps he
        rw [he] at ih
        simp at ih ⊢; omega
      · simp

/-- Does the piece p fit the pattern's segment? -/
def fits (want p : List UInt8) : Bool := if want = [42] then !p.isEmpty else p == want

/-- The pattern over the pieces that are left. -/
def matchP (rest : Bool) : List (List UInt8) → List (List UInt8) → Bool
  | [], ps => rest || ps.isEmpty
  | _ :: _, [] => false
  | want :: ws, p :: ps => fits want p && matchP rest ws ps

/-- The pattern over a path. -/
def matchAll (segs : List (List UInt8)) (rest : Bool) : List UInt8 → Bool
  | [] => false
  | c :: r => if c = 47 then matchP rest segs (split r) else false

/-- strings.Cut at a slash: the piece d, the rest r, whether there is more. -/
def Cut3 (t d r : ByteArray) (m : Bool) : Prop :=
  (∃ i : Nat, i < t.size ∧ Lib.indexByte t.data.toList 47 = (i : Int) ∧ d = t.extract 0 i ∧ r = t.extract (i + 1) t.size ∧ m = true) ∨
  (Lib.indexByte t.data.toList 47 = -1 ∧ d = t ∧ r = ⟨#[]⟩ ∧ m = false)

theorem cut3_exists (t : ByteArray) : ∃ d r m, Cut3 t d r m := by
  have hge := Lib.indexByte_ge t.data.toList 47
  by_cases h : Lib.indexByte t.data.toList 47 = -1
  · exact ⟨t, ⟨#[]⟩, false, .inr ⟨h, rfl, rfl, rfl⟩⟩
  · obtain ⟨i, hi⟩ : ∃ i : Nat, Lib.indexByte t.data.toList 47 = (i : Int) := ⟨(Lib.indexByte t.data.toList 47).toNat, by omega⟩
    have h1 := (Lib.indexByte_some hi).1
    have hlt : i < t.size := by rw [Lib.size_eq]; exact (List.getElem?_eq_some_iff.1 h1).1
    exact ⟨_, _, true, .inl ⟨i, hlt, hi, rfl, rfl, rfl⟩⟩

theorem Cut3.size {t d r : ByteArray} {m : Bool} (h : Cut3 t d r m) : d.size ≤ t.size ∧ r.size ≤ t.size := by
  rcases h with ⟨i, h1, h2, rfl, rfl, rfl⟩ | ⟨h1, rfl, rfl, rfl⟩
  · simp only [ByteArray.size_extract]; omega
  · exact ⟨Nat.le_refl _, Nat.zero_le _⟩

theorem Cut3.split {t d r : ByteArray} {m : Bool} (h : Cut3 t d r m) : Plain.split (L t) = L d :: (if m = true then Plain.split (L r) else []) := by
  rcases h with ⟨i, h1, h2, rfl, rfl, rfl⟩ | ⟨h1, rfl, rfl, rfl⟩
  · obtain ⟨g1, g2⟩ := Lib.indexByte_some h2
    have hx : t[i] = 47 := by
      have := L_get t i h1
      unfold L at this
      rw [this] at g1
      exact Option.some.inj g1
    have e1 : L t = (L t).take i ++ 47 :: (L t).drop (i + 1) := by
      conv => lhs; rw [← List.take_append_drop i (L t), L_drop t i h1, hx]
    rw [L_extract, L_extract_end, if_pos rfl]
    conv => lhs; rw [e1]
    rw [split_piece]
    · simp
    · intro x hx' e
      obtain ⟨j, hj, he⟩ := List.getElem_of_mem hx'
      simp only [List.length_take] at hj
      rw [List.getElem_take] at he
      refine g2 j (by omega) ?_
      show (L t)[j]? = some 47
      rw [List.getElem?_eq_getElem (by omega), he, e]
  · rw [if_neg (by simp)]
    apply split_last
    intro x hx' e
    obtain ⟨j, hj, he⟩ := List.getElem_of_mem hx'
    refine Lib.indexByte_none h1 j ?_
    show (L d)[j]? = some 47
    rw [List.getElem?_eq_getElem hj, he, e]

/-- What is left of the path: nothing behind its last piece. -/
def left (t : ByteArray) (m : Bool) : List (List UInt8) := if m = true then Plain.split (L t) else []

theorem left_true (t : ByteArray) : left t true = Plain.split (L t) := rfl
theorem left_false (t : ByteArray) : left t false = [] := rfl

theorem Cut3.left {t d r : ByteArray} {m : Bool} (h : Cut3 t d r m) : Plain.left t true = L d :: Plain.left r m := h.split

/-- The model's way: by counting the pieces. -/
theorem matchP_short {rest : Bool} : ∀ (segs ps : List (List UInt8)), ps.length < segs.length → matchP rest segs ps = false
  | [], ps, h => by simp at h
  | w :: ws, [], _ => rfl
  | w :: ws, p :: ps, h => by
    rw [matchP, matchP_short ws ps (by simpa using h)]; simp

theorem matchP_long : ∀ (segs ps : List (List UInt8)), ps.length ≠ segs.length → matchP false segs ps = false
  | [], ps, h => by
    cases ps with
    | nil => simp at h
    | cons p ps => rfl
  | w :: ws, [], _ => rfl
  | w :: ws, p :: ps, h => by
    rw [matchP, matchP_long ws ps (by simpa using h)]; simp

theorem matchP_bad {rest : Bool} : ∀ (segs ps : List (List UInt8)) (k : Nat) (a b : List UInt8), segs[k]? = some a → ps[k]? = some b → fits a b = false → matchP rest segs ps = false
  | [], ps, k, a, b, h, _, _ => by simp at h
  | w :: ws, [], k, a, b, _, h, _ => by simp at h
  | w :: ws, p :: ps, 0, a, b, h1, h2, h3 => by
    simp at h1 h2; subst h1; subst h2
    rw [matchP, h3]; rfl
  | w :: ws, p :: ps, k + 1, a, b, h1, h2, h3 => by
    rw [matchP, matchP_bad ws ps k a b (by simpa using h1) (by simpa using h2) h3]; simp

theorem matchP_good {rest : Bool} : ∀ (segs ps : List (List UInt8)), segs.length ≤ ps.length → (rest = true ∨ ps.length = segs.length) →
    (∀ k, k < segs.length → ∃ a b, segs[k]? = some a ∧ ps[k]? = some b ∧ fits a b = true) → matchP rest segs ps = true
  | [], ps, _, h, _ => by
    rcases h with h | h
    · simp [matchP, h]
    · have : ps = [] := List.eq_nil_of_length_eq_zero (by simpa using h)
      simp [matchP, this]
  | w :: ws, [], h, _, _ => by simp at h
  | w :: ws, p :: ps, h1, h2, h3 => by
    obtain ⟨a, b, ha, hb, hf⟩ := h3 0 (by simp)
    simp at ha hb; subst ha; subst hb
    rw [matchP, hf, Bool.true_and]
    refine matchP_good ws ps (by simpa using h1) (by simpa using h2) fun k hk => ?_
    obtain ⟨a, b, ha, hb, hf⟩ := h3 (k + 1) (by simpa using hk)
    exact ⟨a, b, by simpa using ha, by simpa using hb, hf⟩

end Go.Proofs.Qxb6605283a.Plain
