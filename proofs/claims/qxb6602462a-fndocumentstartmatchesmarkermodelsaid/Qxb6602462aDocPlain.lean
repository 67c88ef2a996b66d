/-
  PLAIN MATHEMATICS of FnDocumentStartMatchesMarkerModel: where the first line begins that is a document's marker. No Go in sight.
-/
import Derived.Test.Qxb6602462aPlain
import Derived.Lib.Bytes2
namespace Go.Proofs.Qxb6602462a.Plain

/-- A marker's line begins at s. -/
def Mk (zs : List Int) (n s : Nat) : Prop :=
  (s = 0 ∨ zs.getD (s - 1) 0 = 10) ∧ s + 3 ≤ n ∧ zs.getD s 0 = 45 ∧ zs.getD (s + 1) 0 = 45 ∧ zs.getD (s + 2) 0 = 45 ∧
    (s + 3 = n ∨ zs.getD (s + 3) 0 = 10 ∨ zs.getD (s + 3) 0 = 32 ∨ zs.getD (s + 3) 0 = 9 ∨ zs.getD (s + 3) 0 = 13)

/-- r is the answer: the least such s, else -1. -/
def Res (zs : List Int) (n : Nat) (r : Int) : Prop :=
  (r = -1 ∧ ∀ s, s < n → ¬ Mk zs n s) ∨ ∃ s : Nat, s < n ∧ r = (s : Int) ∧ Mk zs n s ∧ ∀ t, t < s → ¬ Mk zs n t

theorem Res.unique {zs : List Int} {n : Nat} {r r' : Int} (h : Res zs n r) (h' : Res zs n r') : r = r' := by
  rcases h with ⟨h1, h2⟩ | ⟨s, h1, h2, h3, h4⟩ <;> rcases h' with ⟨g1, g2⟩ | ⟨t, g1, g2, g3, g4⟩
  · omega
  · exact absurd g3 (h2 t g1)
  · exact absurd h3 (g2 s h1)
  · have a : ¬ s < t := fun h => g4 s h h3
    have b : ¬ t < s := fun h => h4 t h g3
    omega

/-- What holds at the head of each round of documentStart: p is where a line begins (or the text's end); no marker ahead of it. -/
def At (zs : List Int) (n p : Nat) : Prop := p ≤ n ∧ (p < n → p = 0 ∨ zs.getD (p - 1) 0 = 10) ∧ ∀ s, s < p → ¬ Mk zs n s

theorem At.start (zs : List Int) (n : Nat) : At zs n 0 := ⟨by omega, fun _ => .inl rfl, fun s h => by omega⟩

theorem At.step {zs : List Int} {n p e q : Nat} (h : At zs n p) (hL : Line zs n p e q) (hm : ¬ Mk zs n p) : At zs n q := by
  have hlt := hL.lt
  obtain ⟨l1, l2, l3, l4⟩ := hL
  refine ⟨by omega, fun hq => ?_, fun s hs => ?_⟩
  · rcases l4 with ⟨a, b, c⟩ | ⟨a, b⟩
    · exact .inr (by rw [c]; exact b)
    · omega
  · by_cases h1 : s < p
    · exact h.2.2 s h1
    · by_cases h2 : s = p
      · subst h2; exact hm
      · rintro ⟨m1, _⟩
        rcases m1 with m1 | m1
        · omega
        · exact l3 (s - 1) (by omega) (by rcases l4 with ⟨a, b, c⟩ | ⟨a, b⟩ <;> omega) m1

theorem At.none {zs : List Int} {n p : Nat} (h : At zs n p) (hp : ¬ p < n) : Res zs n (-1) := .inl ⟨rfl, fun s hs => h.2.2 s (by omega)⟩

theorem At.found {zs : List Int} {n p : Nat} (h : At zs n p) (hp : p < n) (hm : Mk zs n p) : Res zs n (p : Int) := .inr ⟨p, hp, rfl, hm, h.2.2⟩

theorem mk_yes {zs : List Int} {n p e q : Nat} (h : At zs n p) (hL : Line zs n p e q) (h3 : p + 3 ≤ e) (a : zs.getD p 0 = 45) (b : zs.getD (p + 1) 0 = 45) (c : zs.getD (p + 2) 0 = 45)
    (hd : e = p + 3 ∨ zs.getD (p + 3) 0 = 32 ∨ zs.getD (p + 3) 0 = 9 ∨ zs.getD (p + 3) 0 = 13) : Mk zs n p := by
  have hlt := hL.lt
  obtain ⟨l1, l2, l3, l4⟩ := hL
  refine ⟨h.2.1 l1, by omega, a, b, c, ?_⟩
  rcases hd with hd | hd | hd | hd
  · rcases l4 with ⟨x, y, z⟩ | ⟨x, y⟩
    · exact .inr (.inl (by rw [← hd]; exact y))
    · exact .inl (by omega)
  · exact .inr (.inr (.inl hd))
  · exact .inr (.inr (.inr (.inl hd)))
  · exact .inr (.inr (.inr (.inr hd)))

theorem mk_no {zs : List Int} {n p e q : Nat} (hL : Line zs n p e q) (h : ¬ (p + 3 ≤ e ∧ zs.getD p 0 = 45 ∧ zs.getD (p + 1) 0 = 45 ∧ zs.getD (p + 2) 0 = 45)) : ¬ Mk zs n p := by
  rintro ⟨_, m1, m2, m3, m4, _⟩
  have hlt := hL.lt
  obtain ⟨l1, l2, l3, l4⟩ := hL
  apply h
  refine ⟨?_, m2, m3, m4⟩
  rcases l4 with ⟨x, y, z⟩ | ⟨x, y⟩
  · rcases Nat.lt_or_ge e (p + 3) with he | he
    · exfalso
      rcases (by omega : e = p ∨ e = p + 1 ∨ e = p + 2) with h | h | h <;> rw [h] at y <;> omega
    · exact he
  · omega

theorem mk_no2 {zs : List Int} {n p e q : Nat} (hL : Line zs n p e q) (h3 : p + 3 < e) (h : ¬ (zs.getD (p + 3) 0 = 32 ∨ zs.getD (p + 3) 0 = 9 ∨ zs.getD (p + 3) 0 = 13)) : ¬ Mk zs n p := by
  rintro ⟨_, m1, _, _, _, m5⟩
  have hlt := hL.lt
  obtain ⟨l1, l2, l3, l4⟩ := hL
  rcases m5 with m5 | m5 | m5
  · omega
  · exact l3 (p + 3) (by omega) h3 m5
  · exact h m5

theorem dash {x : Int} (h0 : 0 ≤ x) (h1 : x < 256) : (UInt8.ofNat x.toNat == 45) = decide (x = 45) := by
  have := byte_eq h0 h1 45 (by omega)
  rw [Bool.eq_iff_iff]
  simp only [beq_iff_eq, decide_eq_true_eq]
  exact this

/-- The line's bytes begin with three dashes. -/
theorem has3_yes {zs : List Int} {n p e : Nat} (hn : zs.length = n) (hen : e ≤ n) (h3 : p + 3 ≤ e) (a : zs.getD p 0 = 45) (b : zs.getD (p + 1) 0 = 45) (c : zs.getD (p + 2) 0 = 45) :
    Lib.hasPrefix (Lib.bytesOf ((zs.drop p).take (e - p))) (Lib.bytesOf [45, 45, 45]) = true := by
  have hd : zs.drop p = zs.getD p 0 :: zs.getD (p + 1) 0 :: zs.getD (p + 2) 0 :: zs.drop (p + 3) := by
    have e1 : ∀ k, k < zs.length → zs.drop k = zs.getD k 0 :: zs.drop (k + 1) := fun k hk => by
      rw [List.drop_eq_getElem_cons hk]; simp [List.getD, List.getElem?_eq_getElem hk]
    rw [e1 p (by omega), e1 (p + 1) (by omega), e1 (p + 2) (by omega)]
  rw [hd, a, b, c]
  obtain ⟨k, hk⟩ : ∃ k, e - p = k + 3 := ⟨e - p - 3, by omega⟩
  rw [hk]
  simp [Lib.hasPrefix, Lib.bytesOf, List.isPrefixOf]

theorem has3_no {zs : List Int} {n p e : Nat} (hb : Byt zs) (hn : zs.length = n) (hen : e ≤ n) (h : ¬ (p + 3 ≤ e ∧ zs.getD p 0 = 45 ∧ zs.getD (p + 1) 0 = 45 ∧ zs.getD (p + 2) 0 = 45)) :
    Lib.hasPrefix (Lib.bytesOf ((zs.drop p).take (e - p))) (Lib.bytesOf [45, 45, 45]) = false := by
  cases hp : Lib.hasPrefix (Lib.bytesOf ((zs.drop p).take (e - p))) (Lib.bytesOf [45, 45, 45]) with
  | false => rfl
  | true =>
    exfalso
    apply h
    have hle := Lib.hasPrefix_le hp
    simp [Lib.bytesOf_length] at hle
    have h3 : p + 3 ≤ e := by omega
    have hpre : Lib.bytesOf [45, 45, 45] <+: Lib.bytesOf ((zs.drop p).take (e - p)) := by simpa [Lib.hasPrefix] using hp
    obtain ⟨t, ht⟩ := hpre
    have get : ∀ k, k < 3 → zs.getD (p + k) 0 = 45 := fun k hk => by
      have e1 : (Lib.bytesOf ((zs.drop p).take (e - p)))[k]? = some 45 := by
        rw [← ht]
        rcases (by omega : k = 0 ∨ k = 1 ∨ k = 2) with h | h | h <;> subst h <;> rfl
      rw [getElem_bytes _ k (by simp; omega)] at e1
      have e2 : ((zs.drop p).take (e - p)).getD k 0 = zs.getD (p + k) 0 := by
        simp [List.getD, show k < e - p by omega]
      rw [e2] at e1
      have e3 : UInt8.ofNat (zs.getD (p + k) 0).toNat = UInt8.ofNat 45 := by simpa using e1
      exact (byte_eq (hb _).1 (hb _).2 45 (by omega)).1 e3
    exact ⟨h3, get 0 (by omega), get 1 (by omega), get 2 (by omega)⟩

end Go.Proofs.Qxb6602462a.Plain
