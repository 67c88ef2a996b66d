/-
  PLAIN MATHEMATICS of the seat b6602462a: lines of a text (a list of byte numbers). No Go in sight.
-/
import Derived.Lib.Bytes
import Derived.Lib.IndexLaws
namespace Go.Proofs.Qxb6602462a.Plain

/-- Each number is a byte's. -/
def Byt (zs : List Int) : Prop := ∀ j, 0 ≤ zs.getD j 0 ∧ zs.getD j 0 < 256

/-- The line that begins at p ends at e; the next one begins at q. -/
def Line (zs : List Int) (n p e q : Nat) : Prop :=
  p < n ∧ p ≤ e ∧ (∀ j, p ≤ j → j < e → zs.getD j 0 ≠ 10) ∧ ((e < n ∧ zs.getD e 0 = 10 ∧ q = e + 1) ∨ (e = n ∧ q = n))

theorem Line.lt {zs : List Int} {n p e q : Nat} (h : Line zs n p e q) : p < n ∧ p ≤ e ∧ e ≤ n ∧ e ≤ q ∧ q ≤ n ∧ p < q := by
  obtain ⟨h1, h2, _, h4⟩ := h
  rcases h4 with ⟨a, _, b⟩ | ⟨a, b⟩ <;> omega

theorem line_exists_aux (zs : List Int) (n p : Nat) (hp : p < n) : ∀ d, d ≤ n - p → (∀ j, p ≤ j → j < n - d → zs.getD j 0 ≠ 10) → ∃ e q, Line zs n p e q
  | 0, _, h => ⟨n, n, hp, by omega, fun j h1 h2 => h j h1 (by omega), .inr ⟨rfl, rfl⟩⟩
  | d + 1, hd, h => by
    by_cases hz : zs.getD (n - (d + 1)) 0 = 10
    · exact ⟨n - (d + 1), n - (d + 1) + 1, hp, by omega, h, .inl ⟨by omega, hz, rfl⟩⟩
    · refine line_exists_aux zs n p hp d (by omega) fun j h1 h2 => ?_
      by_cases hj : j = n - (d + 1)
      · subst hj; exact hz
      · exact h j h1 (by omega)

theorem line_exists (zs : List Int) (n p : Nat) (hp : p < n) : ∃ e q, Line zs n p e q :=
  line_exists_aux zs n p hp (n - p) (Nat.le_refl _) fun j h1 h2 => by omega

theorem byte_eq {x : Int} (h0 : 0 ≤ x) (h1 : x < 256) (c : Nat) (hc : c < 256) : (UInt8.ofNat x.toNat = UInt8.ofNat c) ↔ x = (c : Int) := by
  constructor
  · intro h
    have := congrArg UInt8.toNat h
    simp [UInt8.toNat_ofNat'] at this
    omega
  · intro h; subst h; simp

theorem getElem_bytes (ys : List Int) (k : Nat) (hk : k < ys.length) : (Lib.bytesOf ys)[k]? = some (UInt8.ofNat (ys.getD k 0).toNat) := by
  simp [Lib.bytesOf, List.getElem?_eq_getElem hk, List.getD]

/-- Where a line feed lies at k and none ahead of it. -/
theorem index_at (ys : List Int) (hb : Byt ys) (k : Nat) (hk : k < ys.length) (h10 : ys.getD k 0 = 10) (hno : ∀ j, j < k → ys.getD j 0 ≠ 10) : Lib.indexByte (Lib.bytesOf ys) 10 = (k : Int) := by
  have hge := Lib.indexByte_ge (Lib.bytesOf ys) 10
  have hkb : (Lib.bytesOf ys)[k]? = some 10 := by rw [getElem_bytes ys k hk, h10]; rfl
  by_cases hm : Lib.indexByte (Lib.bytesOf ys) 10 = -1
  · exact absurd hkb (Lib.indexByte_none hm k)
  · obtain ⟨o, ho⟩ : ∃ o : Nat, Lib.indexByte (Lib.bytesOf ys) 10 = (o : Int) := ⟨(Lib.indexByte (Lib.bytesOf ys) 10).toNat, by omega⟩
    obtain ⟨h1, h2⟩ := Lib.indexByte_some ho
    rw [ho]
    have hle : ¬ k < o := fun h => h2 k h hkb
    have hge' : ¬ o < k := fun h => by
      have hol : o < ys.length := by omega
      rw [getElem_bytes ys o hol] at h1
      have e : UInt8.ofNat (ys.getD o 0).toNat = UInt8.ofNat 10 := by simpa using h1
      exact hno o h ((byte_eq (hb o).1 (hb o).2 10 (by omega)).1 e)
    omega

theorem index_none (ys : List Int) (hb : Byt ys) (hno : ∀ j, j < ys.length → ys.getD j 0 ≠ 10) : Lib.indexByte (Lib.bytesOf ys) 10 = -1 := by
  have hge := Lib.indexByte_ge (Lib.bytesOf ys) 10
  by_cases hm : Lib.indexByte (Lib.bytesOf ys) 10 = -1
  · exact hm
  · obtain ⟨o, ho⟩ : ∃ o : Nat, Lib.indexByte (Lib.bytesOf ys) 10 = (o : Int) := ⟨(Lib.indexByte (Lib.bytesOf ys) 10).toNat, by omega⟩
    obtain ⟨h1, _⟩ := Lib.indexByte_some ho
    have hol : o < ys.length := by
      have := (List.getElem?_eq_some_iff.1 h1).1
      rwa [Lib.bytesOf_length] at this
    rw [getElem_bytes ys o hol] at h1
    have e : UInt8.ofNat (ys.getD o 0).toNat = UInt8.ofNat 10 := by simpa using h1
    exact absurd ((byte_eq (hb o).1 (hb o).2 10 (by omega)).1 e) (hno o hol)

theorem Byt.drop {zs : List Int} (h : Byt zs) (p : Nat) : Byt (zs.drop p) := fun j => by rw [Lib.getD_drop]; exact h _

/-- What bytes.IndexByte answers on a line that ends in a line feed. -/
theorem Line.index_yes {zs : List Int} {n p e q : Nat} (h : Line zs n p e q) (hn : zs.length = n) (hb : Byt zs) (he : e < n) : Lib.indexByte (Lib.bytesOf (zs.drop p)) 10 = ((e - p : Nat) : Int) ∧ q = e + 1 := by
  obtain ⟨h1, h2, h3, h4⟩ := h
  rcases h4 with ⟨a, b, c⟩ | ⟨a, b⟩
  · refine ⟨index_at _ (hb.drop p) (e - p) (by simp; omega) ?_ fun j hj => ?_, c⟩
    · rw [Lib.getD_drop, show p + (e - p) = e by omega]; exact b
    · rw [Lib.getD_drop]; exact h3 _ (by omega) (by omega)
  · omega

theorem Line.index_no {zs : List Int} {n p e q : Nat} (h : Line zs n p e q) (hn : zs.length = n) (hb : Byt zs) (he : ¬ e < n) : Lib.indexByte (Lib.bytesOf (zs.drop p)) 10 = -1 ∧ q = n ∧ e = n := by
  obtain ⟨h1, h2, h3, h4⟩ := h
  rcases h4 with ⟨a, b, c⟩ | ⟨a, b⟩
  · omega
  · refine ⟨index_none _ (hb.drop p) fun j hj => ?_, b, a⟩
    rw [Lib.getD_drop]
    simp at hj
    exact h3 _ (by omega) (by omega)

/-- What holds at the head of each round of the rejoining loop: k lines read, the next begins at p, m bytes rebuilt. -/
def Inv (zs : List Int) (n k p m : Nat) : Prop :=
  k ≤ p ∧ p ≤ n ∧ ((k = 0 ∧ p = 0 ∧ m = 0) ∨ (0 < k ∧ m + 1 = p ∧ zs.getD m 0 = 10) ∨ (0 < k ∧ p = n ∧ 0 < n ∧ m = n ∧ zs.getD (n - 1) 0 ≠ 10))

theorem Inv.start (zs : List Int) (n : Nat) : Inv zs n 0 0 0 := ⟨by omega, by omega, .inl ⟨rfl, rfl, rfl⟩⟩

theorem Inv.first {zs : List Int} {n p m : Nat} (h : Inv zs n 0 p m) : p = 0 ∧ m = 0 := by
  obtain ⟨h1, h2, h3⟩ := h
  omega

theorem Inv.later {zs : List Int} {n k p m : Nat} (h : Inv zs n k p m) (hk : 0 < k) (hp : p < n) : p = m + 1 ∧ zs.getD m 0 = 10 := by
  obtain ⟨h1, h2, h3⟩ := h
  rcases h3 with h3 | ⟨_, h3, h4⟩ | h3
  · omega
  · exact ⟨by omega, h4⟩
  · omega

theorem Inv.step {zs : List Int} {n k p m e q m' : Nat} (h : Inv zs n k p m) (hL : Line zs n p e q) (hm : m' = e) : Inv zs n (k + 1) q m' := by
  subst hm
  have hlt := hL.lt
  obtain ⟨h1, h2, _⟩ := h
  obtain ⟨l1, l2, l3, l4⟩ := hL
  refine ⟨by omega, by omega, ?_⟩
  rcases l4 with ⟨a, b, c⟩ | ⟨a, b⟩
  · exact .inr (.inl ⟨by omega, by omega, b⟩)
  · exact .inr (.inr ⟨by omega, b, by omega, a, l3 _ (by omega) (by omega)⟩)

/-- At the end of the text: nothing was there; or the last byte is a line feed and all but it is rebuilt; or all is rebuilt. -/
theorem Inv.fin {zs : List Int} {n k p m : Nat} (h : Inv zs n k p m) (hp : ¬ p < n) : p = n ∧ ((n = 0 ∧ m = 0) ∨ (n = m + 1 ∧ zs.getD m 0 = 10) ∨ (0 < n ∧ m = n ∧ zs.getD (n - 1) 0 ≠ 10)) := by
  obtain ⟨h1, h2, h3⟩ := h
  refine ⟨by omega, ?_⟩
  rcases h3 with h3 | ⟨_, h3, h4⟩ | ⟨_, _, h3, h4, h5⟩
  · exact .inl ⟨by omega, by omega⟩
  · exact .inr (.inl ⟨by omega, h4⟩)
  · exact .inr (.inr ⟨h3, h4, h5⟩)

theorem take_line (zs : List Int) (p e : Nat) (h : p ≤ e) : zs.take p ++ (zs.drop p).take (e - p) = zs.take e := by
  rw [← List.take_add, show p + (e - p) = e by omega]

theorem take_snoc (zs : List Int) (m : Nat) (h : m < zs.length) : zs.take m ++ [zs.getD m 0] = zs.take (m + 1) := by
  rw [List.take_succ_eq_append_getElem h]; simp [List.getD, List.getElem?_eq_getElem h]

end Go.Proofs.Qxb6602462a.Plain
