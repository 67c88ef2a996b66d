/-
  THE WALK of the law FnPatternMatchBySegmentCount.
-/
import Derived.Test.Qxb6605283aModel
namespace Go.Proofs.Qxb6605283a.Walks
open Go.RowKit Go.Proofs.Qxb6605283a.Plain Go.Proofs.Qxb6605283a.Laws
set_option linter.unusedVariables false
set_option linter.unusedSimpArgs false

/-- What is known of a slice of strings that came in, whatever its address. -/
def Strs (w : World) (a : Option Addr) (n : Nat) (ss : List ByteArray) : Prop :=
  ss.length = n ∧ ∀ i, i < n → ∃ b off, a = some ⟨b, off, none⟩ ∧ w.cell? ⟨b, off + i, none⟩ = some (.string (ss.getD i ByteArray.empty))

/-- Some bool comes back. (A definition of its own: the walk's simp opens a bare 'there is a Bool'.) -/
def SomeBool (e : Ending) : Prop := ∃ B, e = .returned (.bool B)

set_option maxHeartbeats 1000000 in
theorem zz8_any (a : Option Addr) (n c : Nat) (ss : List ByteArray) (rest : Bool) (path : ByteArray) (w : World) (hn : n ≤ 9223372036854775807) (hS : Strs w a n ss) (hss : ∀ s ∈ ss, s.size ≤ 9223372036854775807) (hp : path.size ≤ 9223372036854775807) :
    Calls Try.prog 8 #[.slice a n c, .bool rest, .string path] w fun e w' => SomeBool e ∧ w' = w := by
  have HS : Hid (Strs w a n ss) := hS
  have HSS : Hid (∀ s ∈ ss, s.size ≤ 9223372036854775807) := hss
  clear hS hss
  by_cases hn2 : n ≤ 1048576
  · go_enter Try.func8, Try.ntmps8
    go_wp2
    go_loop [7, 8] (fun z i => ∃ k zn : Nat, z = .int .i64 zn ∧ i = .int .i64 k ∧ k ≤ n ∧ zn ≤ 1048576) (fun _ i => n - (intOf i).toNat)
    case atStart => exact ⟨0, n, rfl, rfl, Nat.zero_le _, hn2⟩
    case round =>
      obtain ⟨k, zn, rfl, rfl, hk, hz⟩ := hrel
      by_cases hlt : k < n
      · obtain ⟨b, off, ha, hc⟩ := HS.out.2 k hlt
        obtain ⟨s, hs⟩ : ∃ s, s = ss.getD k ByteArray.empty := ⟨_, rfl⟩
        rw [← hs] at hc
        have hsz : s.size ≤ 9223372036854775807 := by
          rw [hs]
          have hkl : k < ss.length := by rw [HS.out.1]; exact hlt
          rw [List.getD_eq_getElem?_getD, List.getElem?_eq_getElem hkl]
          exact HSS.out _ (List.getElem_mem hkl)
        clear hs
        subst ha
        by_cases h1 : s.size ≤ 1048576
        · by_cases h2 : zn + s.size ≤ 1048576
          · go_wp2
            go_round
            case rel => exact ⟨k + 1, zn + s.size, by go_num, by go_num, by omega, h2⟩
            case measure => simp [intOf]; omega
          · go_wp2
            go_ret
            exact ⟨⟨_, rfl⟩, rfl⟩
        · go_wp2
          go_ret
          exact ⟨⟨_, rfl⟩, rfl⟩
      · by_cases h1 : path.size ≤ 1048576
        · by_cases h2 : zn + path.size ≤ 1048576
          · go_wp2
            go_ret
            exact ⟨⟨_, rfl⟩, rfl⟩
          · go_wp2
            go_ret
            exact ⟨⟨_, rfl⟩, rfl⟩
        · go_wp2
          go_ret
          exact ⟨⟨_, rfl⟩, rfl⟩
  · go_enter Try.func8, Try.ntmps8
    go_wp2
    go_ret
    exact ⟨⟨_, rfl⟩, rfl⟩

/-- The clone, nil or not: its cells lie in a row of their own. -/
def Cells (w : World) (ad : Option Addr) (n : Nat) (ss : List ByteArray) : Prop :=
  ∀ i, i < n → ∃ g, ad = some ⟨g, 0, none⟩ ∧ g < w.heap.size ∧ w.cell? ⟨g, i, none⟩ = some (.string (ss.getD i ByteArray.empty))

theorem Cells.below {w w' : World} {ad : Option Addr} {n : Nat} {ss : List ByteArray} (h : Cells w ad n ss) (hb : Below w.heap.size w w') : Cells w' ad n ss := fun i hi => by
  obtain ⟨g, h1, h2, h3⟩ := h i hi
  exact ⟨g, h1, Nat.lt_of_lt_of_le h2 hb.size, (hb.cell (by exact h2)).trans h3⟩

theorem clone_any (a : Option Addr) (n c : Nat) (ss : List ByteArray) (w : World) (hn : n ≤ 1048576) (ha : a = none → n = 0 ∧ c = 0) (hS : Strs w a n ss) :
    Calls Try.prog 9 #[.slice a n c] w fun e w' => ∃ ad' c', e = .returned (.slice ad' n c') ∧ Cells w' ad' n ss ∧ Below w.heap.size w w' := by
  cases a with
  | none =>
    obtain ⟨rfl, rfl⟩ := ha rfl
    refine (clone_nil w).mono fun e w' ⟨h1, h2⟩ => ⟨_, _, h1, fun i hi => absurd hi (Nat.not_lt_zero _), ?_⟩
    subst h2
    exact Below.refl _ _
  | some x =>
    refine (clone_some x n c ss w hn hS.1 fun i hi => ?_).mono fun e w' ⟨h1, h2, h3, h4⟩ => ⟨_, _, h1, fun i hi => ⟨_, rfl, h3, h2 i hi⟩, h4⟩
    obtain ⟨b, off, h1, h2⟩ := hS.2 i hi
    obtain rfl := Option.some.inj h1
    rw [Go.WideShapes.add_plain]; exact h2

set_option maxHeartbeats 2000000 in
set_option maxRecDepth 100000 in
theorem count_law (a : Option Addr) (n c : Nat) (ss : List ByteArray) (rest : Bool) (path : ByteArray) (w : World) (hn : n ≤ 9223372036854775807) (ha : a = none → n = 0 ∧ c = 0) (hS : Strs w a n ss) (hss : ∀ s ∈ ss, s.size ≤ 9223372036854775807) (hp : path.size ≤ 9223372036854775807) :
    Calls Try.prog 5 #[.slice a n c, .bool rest, .string path] w fun e w' => e = .returned (.bool true) ∧ Below w.heap.size w w' := by
  have hzz := zz8_any a n c ss rest path w hn hS hss hp
  have HS : Hid (Strs w a n ss) := hS
  have HSS : Hid (∀ s ∈ ss, s.size ≤ 9223372036854775807) := hss
  have HA : Hid (a = none → n = 0 ∧ c = 0) := ha
  clear hS hss ha
  go_enter Try.func5, Try.ntmps5
  go_wp2_with fail
  refine hzz.mono ?_
  rintro e w' ⟨⟨B, rfl⟩, rfl⟩
  clear hzz
  cases B with
  | false =>
    go_wp2
    go_ret
    exact ⟨rfl, Below.refl _ _⟩
  | true =>
    by_cases hp2 : path.size ≤ 1048576
    · by_cases hn2 : n ≤ 65536
      · go_wp2
        go_loop [7, 8] (fun z i => ∃ k zn : Nat, z = .int .i64 zn ∧ i = .int .i64 k ∧ k ≤ n ∧ zn ≤ 1048576) (fun _ i => n - (intOf i).toNat)
        case atStart => exact ⟨0, path.size, rfl, rfl, Nat.zero_le _, hp2⟩
        case round =>
          obtain ⟨k, zn, rfl, rfl, hk, hz⟩ := hrel
          by_cases hlt : k < n
          · obtain ⟨b, off, hab, hc⟩ := HS.out.2 k hlt
            obtain ⟨s, hs⟩ : ∃ s, s = ss.getD k ByteArray.empty := ⟨_, rfl⟩
            rw [← hs] at hc
            have hsz : s.size ≤ 9223372036854775807 := by
              rw [hs]
              have hkl : k < ss.length := by rw [HS.out.1]; exact hlt
              rw [List.getD_eq_getElem?_getD, List.getElem?_eq_getElem hkl]
              exact HSS.out _ (List.getElem_mem hkl)
            clear hs
            subst hab
            by_cases h1 : s.size ≤ 1048576
            · by_cases h2 : zn + (16 + s.size) ≤ 1048576
              · go_wp2
                go_round
                case rel => exact ⟨k + 1, zn + (16 + s.size), by go_num, by go_num, by omega, h2⟩
                case measure => simp [intOf]; omega
              · go_wp2
                go_ret
                exact ⟨rfl, Below.refl _ _⟩
            · go_wp2
              go_ret
              exact ⟨rfl, Below.refl _ _⟩
          · have hcl := clone_any a n c ss w' (by omega) HA.out HS.out
            obtain ⟨R, hR⟩ : ∃ R, R = matchAll (segsOf ss) rest (L path) := ⟨_, rfl⟩
            have hma := fun ad c W h => match_any ad n c ss rest path W (by omega) HS.out.1 (by omega) h
            have hmo := fun ad c W h => model_any ad n c ss rest path W (by omega) HS.out.1 hp2 h
            rw [← hR] at hma hmo
            clear hR
            go_wp2_with fail
            refine hcl.mono ?_
            rintro e w1 ⟨ad, c1, rfl, hC1, hb1⟩
            have HC1 : Hid (Cells w1 ad n ss) := hC1
            clear hC1
            go_wp2_with fail
            refine (newPattern_any ad n c1 rest w1).mono ?_
            rintro e w2 ⟨rfl, hb2⟩
            go_wp2_with fail
            have hb3 : Below w1.heap.size w1 (w2.alloc (.cells #[.slice ad n c1, .bool rest] 33)) := hb2.alloc hb2.size _
            have HC3 : Hid (Cells (w2.alloc (.cells #[.slice ad n c1, .bool rest] 33)) ad n ss) := HC1.out.below hb3
            have hB3 : Below w'.heap.size w' (w2.alloc (.cells #[.slice ad n c1, .bool rest] 33)) := hb1.trans (hb3.mono hb1.size)
            have hs3 := hB3.size
            refine (hma ad c1 _ HC3.out).mono ?_
            rintro e w4 ⟨rfl, hb4⟩
            have HC4 : Hid (Cells w4 ad n ss) := HC3.out.below hb4
            have hB4 : Below w'.heap.size w' w4 := hB3.trans (hb4.mono hs3)
            have hs4 := hB4.size
            clear hb1 hb2 hb3 hB3 hs3 hb4 HC3 HC1 hma
            go_wp2_with fail
            refine (hmo ad c1 _ HC4.out).mono ?_
            rintro e w5 ⟨rfl, hb5⟩
            have hB5 : Below w'.heap.size w' w5 := hB4.trans (hb5.mono hs4)
            clear hB4 hs4 hb5 HC4 hmo
            go_wp2
            go_ret
            exact ⟨by cases R <;> rfl, hB5⟩
      · go_wp2
        go_ret
        exact ⟨rfl, Below.refl _ _⟩
    · go_wp2
      go_ret
      exact ⟨rfl, Below.refl _ _⟩

end Go.Proofs.Qxb6605283a.Walks
