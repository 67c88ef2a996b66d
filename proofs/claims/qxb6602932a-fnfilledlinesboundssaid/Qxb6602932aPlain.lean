/-
  PLAIN MATHEMATICS of the seat b6602932a: lines of a text (a list of byte numbers); the filled ones counted. No Go in sight.
-/
import Derived.Lib.Bytes2
import Derived.Lib.IndexLaws
namespace Go.Proofs.Qxb6602932a.Plain

/-- Each number is a byte's. -/
def Byt (zs : List Int) : Prop := ∀ j, 0 ≤ zs.getD j 0 ∧ zs.getD j 0 < 256

/-- The line that begins at p ends at e; the next one begins at q. -/
def Line (zs : List Int) (n p e q : Nat) : Prop :=
  p < n ∧ p ≤ e ∧ (∀ j, p ≤ j → j < e → zs.getD j 0 ≠ 10) ∧ ((e < n ∧ zs.getD e 0 = 10 ∧ q = e + 1) ∨ (e = n ∧ q = n))

theorem Line.lt {zs : List Int} {n p e q : Nat} (h : Line zs n p e q) : p < n ∧ p ≤ e ∧ e ≤ n ∧ e ≤ q ∧ q ≤ n ∧ p < q := by
  obtain ⟨h1, h2, _, h4⟩ := h
  rcases h4 with ⟨a, _, b⟩ | ⟨a, b⟩ <;> omega

theorem line_exists_aux (zs : List Int) (n p : Nat) (hp : p < n) : ∀ d, d ≤ n - p → (∀ j, p ≤ j → j < n - d → zs.getD j 0 ≠ 10) → ∃ e q, Line zs n p e q
  | 0, _, h => ⟨n, n, hp, by omega, fun j h1 h2 => h j h1 (by omega), .inr ⟨rfl, rfl⟩⟩
  | d + 1, hd, h => by
    by_cases hz : zs.getD (n - (d + 1)) 0 = 10
    · exact ⟨n - (d + 1), n - (d + 1) + 1, hp, by omega, h, .inl ⟨by omega, hz, rfl⟩⟩
    · refine line_exists_aux zs n p hp d (by omega) fun j h1 h2 => ?_
      by_cases hj : j = n - (d + 1)
      · subst hj; exact hz
      · exact h j h1 (by omega)

theorem line_exists (zs : List Int) (n p : Nat) (hp : p < n) : ∃ e q, Line zs n p e q :=
  line_exists_aux zs n p hp (n - p) (Nat.le_refl _) fun j h1 h2 => by omega

theorem byte_eq {x : Int} (h0 : 0 ≤ x) (h1 : x < 256) (c : Nat) (hc : c < 256) : (UInt8.ofNat x.toNat = UInt8.ofNat c) ↔ x = (c : Int) := by
  constructor
  · intro h
    have := congrArg UInt8.toNat h
    simp [UInt8.toNat_ofNat'] at this
    omega
  · intro h; subst h; simp

theorem getElem_bytes (ys : List Int) (k : Nat) (hk : k < ys.length) : (Lib.bytesOf ys)[k]? = some (UInt8.ofNat (ys.getD k 0).toNat) := by
  simp [Lib.bytesOf, List.getElem?_eq_getElem hk, List.getD]

/-- Where a line feed lies at k and none ahead of it. -/
theorem index_at (ys : List Int) (hb : Byt ys) (k : Nat) (hk : k < ys.length) (h10 : ys.getD k 0 = 10) (hno : ∀ j, j < k → ys.getD j 0 ≠ 10) : Lib.indexByte (Lib.bytesOf ys) 10 = (k : Int) := by
  have hge := Lib.indexByte_ge (Lib.bytesOf ys) 10
  have hkb : (Lib.bytesOf ys)[k]? = some 10 := by rw [getElem_bytes ys k hk, h10]; rfl
  by_cases hm : Lib.indexByte (Lib.bytesOf ys) 10 = -1
  · exact absurd hkb (Lib.indexByte_none hm k)
  · obtain ⟨o, ho⟩ : ∃ o : Nat, Lib.indexByte (Lib.bytesOf ys) 10 = (o : Int) := ⟨(Lib.indexByte (Lib.bytesOf ys) 10).toNat, by omega⟩
    obtain ⟨h1, h2⟩ := Lib.indexByte_some ho
    rw [ho]
    have hle : ¬ k < o := fun h => h2 k h hkb
    have hge' : ¬ o < k := fun h => by
      have hol : o < ys.length := by omega
      rw [getElem_bytes ys o hol] at h1
      have e : UInt8.ofNat (ys.getD o 0).toNat = UInt8.ofNat 10 := by simpa using h1
      exact hno o h ((byte_eq (hb o).1 (hb o).2 10 (by omega)).1 e)
    omega

theorem index_none (ys : List Int) (hb : Byt ys) (hno : ∀ j, j < ys.length → ys.getD j 0 ≠ 10) : Lib.indexByte (Lib.bytesOf ys) 10 = -1 := by
  have hge := Lib.indexByte_ge (Lib.bytesOf ys) 10
  by_cases hm : Lib.indexByte (Lib.bytesOf ys) 10 = -1
  · exact hm
  · obtain ⟨o, ho⟩ : ∃ o : Nat, Lib.indexByte (Lib.bytesOf ys) 10 = (o : Int) := ⟨(Lib.indexByte (Lib.bytesOf ys) 10).toNat, by omega⟩
    obtain ⟨h1, _⟩ := Lib.indexByte_some ho
    have hol : o < ys.length := by
      have := (List.getElem?_eq_some_iff.1 h1).1
      rwa [Lib.bytesOf_length] at this
    rw [getElem_bytes ys o hol] at h1
    have e : UInt8.ofNat (ys.getD o 0).toNat = UInt8.ofNat 10 := by simpa using h1
    exact absurd ((byte_eq (hb o).1 (hb o).2 10 (by omega)).1 e) (hno o hol)

theorem Byt.drop {zs : List Int} (h : Byt zs) (p : Nat) : Byt (zs.drop p) := fun j => by rw [Lib.getD_drop]; exact h _

/-- What bytes.IndexByte answers on a line that ends in a line feed. -/
theorem Line.index_yes {zs : List Int} {n p e q : Nat} (h : Line zs n p e q) (hn : zs.length = n) (hb : Byt zs) (he : e < n) : Lib.indexByte (Lib.bytesOf (zs.drop p)) 10 = ((e - p : Nat) : Int) ∧ q = e + 1 := by
  obtain ⟨h1, h2, h3, h4⟩ := h
  rcases h4 with ⟨a, b, c⟩ | ⟨a, b⟩
  · refine ⟨index_at _ (hb.drop p) (e - p) (by simp; omega) ?_ fun j hj => ?_, c⟩
    · rw [Lib.getD_drop, show p + (e - p) = e by omega]; exact b
    · rw [Lib.getD_drop]; exact h3 _ (by omega) (by omega)
  · omega

theorem Line.index_no {zs : List Int} {n p e q : Nat} (h : Line zs n p e q) (hn : zs.length = n) (hb : Byt zs) (he : ¬ e < n) : Lib.indexByte (Lib.bytesOf (zs.drop p)) 10 = -1 ∧ q = n ∧ e = n := by
  obtain ⟨h1, h2, h3, h4⟩ := h
  rcases h4 with ⟨a, b, c⟩ | ⟨a, b⟩
  · omega
  · refine ⟨index_none _ (hb.drop p) fun j hj => ?_, b, a⟩
    rw [Lib.getD_drop]
    simp at hj
    exact h3 _ (by omega) (by omega)

/-- One for a filled line: two bytes or more, or one that is no carriage return. -/
def fillB (seen : Nat) (first : Int) : Nat := if 2 ≤ seen ∨ (seen = 1 ∧ first ≠ 13) then 1 else 0

/-- The filled lines, byte by byte: 'seen': bytes of the line so far, up to 2; 'first': its first byte. -/
def cnt : Nat → Int → List Int → Nat
  | s, f, [] => fillB s f
  | s, f, x :: r => if x = 10 then fillB s f + cnt 0 f r else cnt (if s < 2 then s + 1 else s) (if s = 0 then x else f) r

theorem cnt_nl (s : Nat) (f : Int) (r : List Int) : cnt s f (10 :: r) = fillB s f + cnt 0 f r := by simp [cnt]
theorem cnt_byte (s : Nat) (f x : Int) (r : List Int) (h : x ≠ 10) : cnt s f (x :: r) = cnt (if s < 2 then s + 1 else s) (if s = 0 then x else f) r := by simp [cnt, h]

theorem fillB_le (s : Nat) (f : Int) : fillB s f ≤ 1 := by unfold fillB; split <;> omega
theorem fillB_zero (f : Int) : fillB 0 f = 0 := by simp [fillB]
theorem fillB_two (f : Int) : fillB 2 f = 1 := by simp [fillB]

theorem cnt_zero : ∀ (l : List Int) (f g : Int), cnt 0 f l = cnt 0 g l
  | [], f, g => by simp [cnt, fillB]
  | x :: r, f, g => by
    by_cases h : x = 10
    · subst h; rw [cnt_nl, cnt_nl, fillB_zero, fillB_zero, cnt_zero r f g]
    · rw [cnt_byte _ _ _ _ h, cnt_byte _ _ _ _ h]; simp

theorem cnt_half : ∀ (l : List Int) (s : Nat) (f : Int), 2 * cnt s f l ≤ l.length + (if s = 0 then 1 else 2)
  | [], s, f => by
    have := fillB_le s f
    by_cases h : s = 0
    · subst h; simp [cnt, fillB_zero]
    · simp [cnt, h]; omega
  | x :: r, s, f => by
    by_cases h : x = 10
    · subst h
      have ih := cnt_half r 0 f
      have := fillB_le s f
      rw [cnt_nl]
      simp only [if_true, List.length_cons] at ih ⊢
      by_cases hs : s = 0
      · subst hs; rw [fillB_zero]; simp; omega
      · rw [if_neg hs]; omega
    · rw [cnt_byte _ _ _ _ h]
      have ih := cnt_half r (if s < 2 then s + 1 else s) (if s = 0 then x else f)
      have hne : ¬ (if s < 2 then s + 1 else s) = 0 := by split <;> omega
      rw [if_neg hne] at ih
      simp only [List.length_cons]
      by_cases hs : s = 0
      · simp only [hs, if_true] at ih ⊢; omega
      · simp only [hs, if_false] at ih ⊢; omega

theorem cnt_lines : ∀ (l : List Int) (s : Nat) (f : Int), cnt s f l ≤ l.countP (· == 10) + 1
  | [], s, f => by have := fillB_le s f; simp [cnt]; omega
  | x :: r, s, f => by
    by_cases h : x = 10
    · subst h
      have ih := cnt_lines r 0 f
      have := fillB_le s f
      rw [cnt_nl, List.countP_cons_of_pos (by simp)]
      omega
    · rw [cnt_byte _ _ _ _ h, List.countP_cons_of_neg (by simpa using h)]
      exact cnt_lines r _ _

theorem cnt_some : ∀ (l : List Int) (s : Nat) (f : Int), ((2 ≤ s ∨ (s = 1 ∧ f ≠ 13)) ∨ ∃ x ∈ l, x ≠ 10 ∧ x ≠ 13) → 1 ≤ cnt s f l
  | [], s, f, h => by
    rcases h with h | ⟨x, hx, _⟩
    · simp [cnt, fillB, h]
    · cases hx
  | x :: r, s, f, h => by
    by_cases hx : x = 10
    · subst hx
      rw [cnt_nl]
      rcases h with h | ⟨y, hy, h1, h2⟩
      · simp [fillB, h]
      · have hy' : y ∈ r := by
          rcases List.mem_cons.1 hy with e | e
          · exact absurd e h1
          · exact e
        have := cnt_some r 0 f (.inr ⟨y, hy', h1, h2⟩)
        omega
    · rw [cnt_byte _ _ _ _ hx]
      apply cnt_some
      by_cases hs : s = 0
      · subst hs
        by_cases h13 : x = 13
        · rcases h with h | ⟨y, hy, h1, h2⟩
          · omega
          · rcases List.mem_cons.1 hy with e | e
            · exact absurd (e.trans h13) h2
            · exact .inr ⟨y, e, h1, h2⟩
        · exact .inl (.inr ⟨by simp, by simpa using h13⟩)
      · exact .inl (.inl (by split <;> omega))

/-- A piece of a line, no line feed in it. -/
theorem cnt_piece : ∀ (p : List Int) (t : List Int) (s : Nat) (f : Int), (∀ x ∈ p, x ≠ 10) → s ≤ 2 →
    cnt s f (p ++ t) = cnt (Nat.min 2 (s + p.length)) (if s = 0 then p.headD f else f) t
  | [], t, s, f, _, hs => by
    have : Nat.min 2 s = s := Nat.min_eq_right hs
    simp [this]
  | x :: p, t, s, f, h, hs => by
    rw [List.cons_append, cnt_byte _ _ _ _ (h x (by simp)), cnt_piece p t _ _ (fun y hy => h y (by simp [hy])) (by split <;> omega)]
    have e1 : Nat.min 2 ((if s < 2 then s + 1 else s) + p.length) = Nat.min 2 (s + (x :: p).length) := by
      have a1 := Nat.min_def (n := 2) (m := (if s < 2 then s + 1 else s) + p.length)
      have a2 := Nat.min_def (n := 2) (m := s + (x :: p).length)
      simp only [List.length_cons] at a2 ⊢
      show min _ _ = min _ _
      split <;> omega
    rw [e1]
    congr 1
    by_cases hs0 : s = 0
    · subst hs0; simp
    · have : ¬ (if s < 2 then s + 1 else s) = 0 := by split <;> omega
      simp [hs0, this]

theorem drop_cons (zs : List Int) (k : Nat) (h : k < zs.length) : zs.drop k = zs.getD k 0 :: zs.drop (k + 1) := by
  rw [List.drop_eq_getElem_cons h]; simp [List.getD, List.getElem?_eq_getElem h]

theorem drop_split (zs : List Int) (p e : Nat) (h : p ≤ e) : zs.drop p = (zs.drop p).take (e - p) ++ zs.drop e := by
  conv => lhs; rw [← List.take_append_drop (e - p) (zs.drop p)]
  rw [List.drop_drop, show p + (e - p) = e by omega]

/-- A line is filled. -/
def Full (zs : List Int) (p e : Nat) : Prop := 2 ≤ e - p ∨ (e - p = 1 ∧ zs.getD p 0 ≠ 13)

/-- One line more. -/
theorem Line.cnt {zs : List Int} {n p e q : Nat} (hL : Line zs n p e q) (hn : zs.length = n) (k : Nat) (hk : (Full zs p e ∧ k = 1) ∨ (¬ Full zs p e ∧ k = 0)) :
    Plain.cnt 0 0 (zs.drop p) = k + Plain.cnt 0 0 (zs.drop q) := by
  have hlt := hL.lt
  obtain ⟨l1, l2, l3, l4⟩ := hL
  rw [drop_split zs p e l2, cnt_piece _ _ _ _ (fun x hx => ?_) (by omega)]
  · have hlen : ((zs.drop p).take (e - p)).length = e - p := by simp; omega
    rw [hlen, Nat.zero_add, if_pos rfl]
    have hfill : ∀ g, fillB (Nat.min 2 (e - p)) (((zs.drop p).take (e - p)).headD g) = k := fun g => by
      have hm : Nat.min 2 (e - p) = if 2 ≤ e - p then 2 else e - p := Nat.min_def
      rw [hm]
      by_cases h2 : 2 ≤ e - p
      · rw [if_pos h2, fillB_two]
        rcases hk with ⟨_, h⟩ | ⟨h, _⟩
        · exact h.symm
        · exact absurd (.inl h2) h
      · rw [if_neg h2]
        by_cases h0 : e - p = 0
        · rw [h0, fillB_zero]
          rcases hk with ⟨h, _⟩ | ⟨_, h⟩
          · rcases h with h | h <;> omega
          · exact h.symm
        · have h1 : e - p = 1 := by omega
          rw [h1, drop_cons zs p (by omega)]
          simp only [List.take_succ_cons, List.headD_cons]
          unfold fillB
          rcases hk with ⟨h, h'⟩ | ⟨h, h'⟩
          · rw [if_pos, h']
            rcases h with h | h
            · omega
            · exact .inr ⟨rfl, h.2⟩
          · rw [if_neg, h']
            rintro (h3 | ⟨_, h3⟩)
            · omega
            · exact h (.inr ⟨h1, h3⟩)
    rcases l4 with ⟨a, b, c⟩ | ⟨a, b⟩
    · rw [drop_cons zs e (by omega), b, cnt_nl, hfill, c, cnt_zero _ _ 0]
    · have : zs.drop e = [] := by rw [List.drop_eq_nil_iff]; omega
      rw [this, show zs.drop q = [] by rw [List.drop_eq_nil_iff]; omega]
      show fillB _ _ = k + fillB 0 0
      rw [hfill, fillB_zero]; rfl
  · obtain ⟨j, hj, he⟩ := List.getElem_of_mem hx
    have hj' : j < e - p := by simp at hj; omega
    rw [List.getElem_take, List.getElem_drop] at he
    have := l3 (p + j) (by omega) (by omega)
    rw [List.getD_eq_getElem?_getD, List.getElem?_eq_getElem (by omega)] at this
    rw [← he]
    exact this

/-- What bytes.TrimSuffix leaves of the line: tl bytes. -/
def Trim (zs : List Int) (p e tl : Nat) : Prop := (p < e ∧ zs.getD (e - 1) 0 = 13 ∧ tl = e - p - 1) ∨ (¬ (p < e ∧ zs.getD (e - 1) 0 = 13) ∧ tl = e - p)

theorem trim_exists (zs : List Int) (p e : Nat) : ∃ tl, Trim zs p e tl := by
  by_cases h : p < e ∧ zs.getD (e - 1) 0 = 13
  · exact ⟨_, .inl ⟨h.1, h.2, rfl⟩⟩
  · exact ⟨_, .inr ⟨h, rfl⟩⟩

theorem Trim.le {zs : List Int} {p e tl : Nat} (h : Trim zs p e tl) : tl ≤ e - p := by rcases h with ⟨_, _, h⟩ | ⟨_, h⟩ <;> omega

theorem Trim.full {zs : List Int} {p e tl : Nat} (h : Trim zs p e tl) : 0 < tl ↔ Full zs p e := by
  unfold Full
  rcases h with ⟨h1, h2, h3⟩ | ⟨h1, h2⟩
  · constructor
    · intro h; exact .inl (by omega)
    · rintro (h | ⟨h, h'⟩)
      · omega
      · rw [show e - 1 = p by omega] at h2; exact absurd h2 h'
  · constructor
    · intro h
      by_cases h3 : e - p = 1
      · refine .inr ⟨h3, fun h' => h1 ⟨by omega, ?_⟩⟩
        rw [show e - 1 = p by omega]; exact h'
      · exact .inl (by omega)
    · rintro (h | ⟨h, _⟩) <;> omega

theorem cr_suffix {zs : List Int} {n p e : Nat} (hb : Byt zs) (hn : zs.length = n) (hpe : p ≤ e) (hen : e ≤ n) :
    Lib.hasSuffix (Lib.bytesOf ((zs.drop p).take (e - p))) (Lib.bytesOf [13]) = decide (p < e ∧ zs.getD (e - 1) 0 = 13) := by
  have h0 := Lib.bytes_hasSuffix ((zs.drop p).take (e - p)) [13]
  rw [← h0]
  have hlen : ((zs.drop p).take (e - p)).length = e - p := by simp; omega
  rw [hlen]
  by_cases h : p < e
  · have hd : ((zs.drop p).take (e - p)).drop (e - p - [(13 : Int)].length) = [zs.getD (e - 1) 0] := by
      show ((zs.drop p).take (e - p)).drop (e - p - 1) = _
      apply List.ext_getElem
      · simp; omega
      · intro i h1 h2
        simp at h2
        subst h2
        rw [List.getElem_drop, List.getElem_take, List.getElem_drop]
        simp only [List.getElem_singleton]
        rw [List.getD_eq_getElem?_getD, List.getElem?_eq_getElem (by omega)]
        simp only [Option.getD_some]
        congr 1
        omega
    rw [hd]
    have e1 : decide ([(13 : Int)].length ≤ e - p) = true := by simp; omega
    rw [e1, Bool.true_and]
    rw [Bool.eq_iff_iff]
    simp only [beq_iff_eq, decide_eq_true_eq]
    have := byte_eq (hb (e - 1)).1 (hb (e - 1)).2 13 (by omega)
    constructor
    · intro h'
      refine ⟨h, ?_⟩
      simp [Lib.bytesOf] at h'
      exact this.1 (by simpa using h')
    · rintro ⟨_, h'⟩
      rw [h']
  · have e1 : decide ([(13 : Int)].length ≤ e - p) = false := by simp; omega
    rw [e1, Bool.false_and]
    symm
    rw [decide_eq_false_iff_not]
    exact fun h' => h h'.1

end Go.Proofs.Qxb6602932a.Plain
