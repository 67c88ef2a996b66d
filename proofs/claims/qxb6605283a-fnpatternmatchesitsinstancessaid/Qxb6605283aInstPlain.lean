/-
  PLAIN MATHEMATICS of FnPatternMatchesItsInstances: a path written out of a pattern's segments, and how the pattern meets it. No Go in sight.
-/
import Derived.Test.Qxb6605283aPlain
namespace Go.Proofs.Qxb6605283a.Plain

/-- What stands for the k-th segment s. -/
def pieceOf (fill : List UInt8) (em : Int) (k : Nat) (s : List UInt8) : List UInt8 := if s = [42] then (if (k : Int) = em then [] else fill) else s

/-- The segments from the k-th on, written out. -/
def pieces (fill : List UInt8) (em : Int) : Nat → List (List UInt8) → List (List UInt8)
  | _, [] => []
  | k, s :: r => pieceOf fill em k s :: pieces fill em (k + 1) r

theorem pieces_length (fill : List UInt8) (em : Int) : ∀ (l : List (List UInt8)) (k : Nat), (pieces fill em k l).length = l.length
  | [], _ => rfl
  | s :: r, k => by simp [pieces, pieces_length fill em r (k + 1)]

theorem pieces_get (fill : List UInt8) (em : Int) : ∀ (l : List (List UInt8)) (k j : Nat), (pieces fill em k l)[j]? = (l[j]?).map (pieceOf fill em (k + j))
  | [], k, j => by simp [pieces]
  | s :: r, k, 0 => by simp [pieces]
  | s :: r, k, j + 1 => by
    simp only [pieces, List.getElem?_cons_succ]
    rw [pieces_get fill em r (k + 1) j, show k + 1 + j = k + (j + 1) by omega]

/-- Joined by slashes. -/
def joinS : List (List UInt8) → List UInt8
  | [] => []
  | [p] => p
  | p :: q :: r => p ++ 47 :: joinS (q :: r)

theorem joinS_cons (p : List UInt8) (r : List (List UInt8)) (h : r ≠ []) : joinS (p :: r) = p ++ 47 :: joinS r := by
  cases r with
  | nil => exact absurd rfl h
  | cons q r => rfl

theorem joinS_snoc : ∀ (l : List (List UInt8)) (p : List UInt8), l ≠ [] → joinS (l ++ [p]) = joinS l ++ 47 :: p
  | [], p, h => absurd rfl h
  | [q], p, _ => rfl
  | q :: q' :: r, p, _ => by
    rw [List.cons_append, joinS_cons q _ (by simp), joinS_snoc (q' :: r) p (by simp), joinS_cons q (q' :: r) (by simp)]
    simp

theorem split_join : ∀ (l : List (List UInt8)), l ≠ [] → (∀ p ∈ l, ∀ x ∈ p, x ≠ 47) → split (joinS l) = l
  | [], h, _ => absurd rfl h
  | [p], _, h => split_last p (h p (by simp))
  | p :: q :: r, _, h => by
    rw [joinS_cons p _ (by simp), split_piece _ _ (h p (by simp)), split_join (q :: r) (by simp) (fun p' hp => h p' (by simp [List.mem_cons.1 hp]))]

theorem split_join_more (t : List UInt8) : ∀ (l : List (List UInt8)), l ≠ [] → (∀ p ∈ l, ∀ x ∈ p, x ≠ 47) → split (joinS l ++ 47 :: t) = l ++ split t
  | [], h, _ => absurd rfl h
  | [p], _, h => split_piece p t (h p (by simp))
  | p :: q :: r, _, h => by
    rw [joinS_cons p _ (by simp), List.append_assoc, List.cons_append, split_piece _ _ (h p (by simp)), split_join_more t (q :: r) (by simp) (fun p' hp => h p' (by simp [List.mem_cons.1 hp]))]
    rfl

theorem piece_no {fill s : List UInt8} {em : Int} {k : Nat} (hf : ∀ x ∈ fill, x ≠ 47) (hs : ∀ x ∈ s, x ≠ 47) : ∀ x ∈ pieceOf fill em k s, x ≠ 47 := by
  unfold pieceOf
  split
  · split
    · simp
    · exact hf
  · exact hs

theorem pieces_no {fill : List UInt8} {em : Int} (hf : ∀ x ∈ fill, x ≠ 47) : ∀ (l : List (List UInt8)) (k : Nat), (∀ s ∈ l, ∀ x ∈ s, x ≠ 47) → ∀ p ∈ pieces fill em k l, ∀ x ∈ p, x ≠ 47
  | [], _, _ => by simp [pieces]
  | s :: r, k, h => by
    intro p hp
    rcases List.mem_cons.1 hp with rfl | hp
    · exact piece_no hf (h s (by simp))
    · exact pieces_no hf r (k + 1) (fun s' hs' => h s' (by simp [hs'])) p hp

theorem piece_fits {fill s : List UInt8} {k : Nat} (hne : fill ≠ []) : fits s (pieceOf fill (-1) k s) = true := by
  unfold fits pieceOf
  by_cases h : s = [42]
  · rw [if_pos h, if_pos h, if_neg (by omega)]
    cases fill with
    | nil => exact absurd rfl hne
    | cons a b => rfl
  · rw [if_neg h, if_neg h]; simp

/-- The path that is written out of the segments. -/
def inst (fill : List UInt8) (em : Int) (segs : List (List UInt8)) : List UInt8 := 47 :: joinS (pieces fill em 0 segs)

theorem whole_ok {fill : List UInt8} {segs : List (List UInt8)} (rest : Bool) (hne : fill ≠ []) (hf : ∀ x ∈ fill, x ≠ 47) (hs : ∀ s ∈ segs, ∀ x ∈ s, x ≠ 47) :
    matchAll segs rest (inst fill (-1) segs) = (decide (0 < segs.length) || rest) := by
  unfold inst
  simp only [matchAll, if_true]
  cases segs with
  | nil => simp [pieces, joinS, split, matchP]
  | cons s r =>
    rw [split_join _ (by simp [pieces]) (pieces_no hf _ _ hs)]
    rw [matchP_good _ _ (by rw [pieces_length]; exact Nat.le_refl _) (.inr (pieces_length _ _ _ _)) fun k hk => ?_]
    · simp
    · refine ⟨_, _, List.getElem?_eq_getElem hk, by rw [pieces_get, List.getElem?_eq_getElem hk]; rfl, piece_fits hne⟩

theorem longer_ok {fill : List UInt8} {segs : List (List UInt8)} (rest : Bool) (tail : List UInt8) (hne : fill ≠ []) (hf : ∀ x ∈ fill, x ≠ 47) (hs : ∀ s ∈ segs, ∀ x ∈ s, x ≠ 47) :
    matchAll segs rest (inst fill (-1) segs ++ 47 :: tail) = rest := by
  unfold inst
  simp only [List.cons_append, matchAll, if_true]
  cases segs with
  | nil =>
    simp only [pieces, joinS, List.nil_append]
    rw [split_slash]
    simp [matchP]
  | cons s r =>
    rw [split_join_more tail _ (by simp [pieces]) (pieces_no hf _ _ hs)]
    have hlt : 0 < (split tail).length := List.length_pos_iff.2 (split_ne tail)
    cases rest with
    | false =>
      apply matchP_long
      rw [List.length_append, pieces_length]
      omega
    | true =>
      refine matchP_good _ _ (by rw [List.length_append, pieces_length]; omega) (.inl rfl) fun k hk => ?_
      refine ⟨_, _, List.getElem?_eq_getElem hk, ?_, piece_fits (k := 0 + k) hne⟩
      rw [List.getElem?_append_left (by rw [pieces_length]; exact hk), pieces_get, List.getElem?_eq_getElem hk]
      rfl

theorem emptied_ok {fill : List UInt8} {segs : List (List UInt8)} (rest : Bool) (k : Nat) (hk : segs[k]? = some [42]) (hf : ∀ x ∈ fill, x ≠ 47) (hs : ∀ s ∈ segs, ∀ x ∈ s, x ≠ 47) :
    matchAll segs rest (inst fill (k : Int) segs) = false := by
  unfold inst
  simp only [matchAll, if_true]
  cases segs with
  | nil => simp at hk
  | cons s r =>
    rw [split_join _ (by simp [pieces]) (pieces_no hf _ _ hs)]
    refine matchP_bad _ _ k [42] [] hk ?_ (by simp [fits])
    rw [pieces_get, hk]
    simp [pieceOf]

/-- One segment more. -/
theorem join_take {l : List (List UInt8)} {k : Nat} {p : List UInt8} (h : l[k]? = some p) : joinS (l.take (k + 1)) = if k = 0 then p else joinS (l.take k) ++ 47 :: p := by
  have hk : k < l.length := (List.getElem?_eq_some_iff.1 h).1
  have hp : l[k] = p := (List.getElem?_eq_some_iff.1 h).2
  rw [List.take_succ_eq_append_getElem hk, hp]
  by_cases h0 : k = 0
  · subst h0; simp [joinS]
  · rw [if_neg h0, joinS_snoc _ _ (by
      intro e
      have := congrArg List.length e
      simp at this
      rcases this with h | h
      · exact h0 h
      · rw [h] at hk; simp at hk)]

end Go.Proofs.Qxb6605283a.Plain
