/-
  THE WALK of the law FnPatternMatchesItsInstances.
-/
import Derived.Test.Qxb6605283aInst
import Derived.Deep.RegionWith
import Derived.Deep.Cut
import Derived.Deep.CutRange
namespace Go.Proofs.Qxb6605283a.Walks
open Go.RowKit Go.Proofs.Qxb6605283a.Plain Go.Proofs.Qxb6605283a.Laws
set_option linter.unusedVariables false
set_option linter.unusedSimpArgs false

set_option maxHeartbeats 1000000 in
theorem zz13_any (a : Option Addr) (n c : Nat) (ss : List ByteArray) (rest : Bool) (fill tail : ByteArray) (w : World) (hn : n ≤ 9223372036854775807) (hS : Strs w a n ss) (hss : ∀ s ∈ ss, s.size ≤ 9223372036854775807) (hf : fill.size ≤ 9223372036854775807) (ht : tail.size ≤ 9223372036854775807) :
    Calls Try.prog 13 #[.slice a n c, .bool rest, .string fill, .string tail] w fun e w' => SomeBool e ∧ w' = w := by
  have HS : Hid (Strs w a n ss) := hS
  have HSS : Hid (∀ s ∈ ss, s.size ≤ 9223372036854775807) := hss
  clear hS hss
  by_cases hn2 : n ≤ 1048576
  · go_enter Try.func13, Try.ntmps13
    go_wp2
    go_loop [9, 10] (fun z i => ∃ k zn : Nat, z = .int .i64 zn ∧ i = .int .i64 k ∧ k ≤ n ∧ zn ≤ 1048576) (fun _ i => n - (intOf i).toNat)
    case atStart => exact ⟨0, n, rfl, rfl, Nat.zero_le _, hn2⟩
    case round =>
      obtain ⟨k, zn, rfl, rfl, hk, hz⟩ := hrel
      by_cases hlt : k < n
      · obtain ⟨b, off, ha, hc⟩ := HS.out.2 k hlt
        obtain ⟨s, hs⟩ : ∃ s, s = ss.getD k ByteArray.empty := ⟨_, rfl⟩
        rw [← hs] at hc
        have hsz : s.size ≤ 9223372036854775807 := by
          rw [hs]
          have hkl : k < ss.length := by rw [HS.out.1]; exact hlt
          rw [List.getD_eq_getElem?_getD, List.getElem?_eq_getElem hkl]
          exact HSS.out _ (List.getElem_mem hkl)
        clear hs
        subst ha
        by_cases h1 : s.size ≤ 1048576
        · by_cases h2 : zn + s.size ≤ 1048576
          · go_wp2
            go_round
            case rel => exact ⟨k + 1, zn + s.size, by go_num, by go_num, by omega, h2⟩
            case measure => simp [intOf]; omega
          · go_wp2
            go_ret
            exact ⟨⟨_, rfl⟩, rfl⟩
        · go_wp2
          go_ret
          exact ⟨⟨_, rfl⟩, rfl⟩
      · by_cases h1 : fill.size ≤ 1048576
        · by_cases h2 : zn + fill.size ≤ 1048576
          · by_cases h3 : tail.size ≤ 1048576
            · by_cases h4 : zn + fill.size + tail.size ≤ 1048576
              · go_wp2
                go_ret
                exact ⟨⟨_, rfl⟩, rfl⟩
              · go_wp2
                go_ret
                exact ⟨⟨_, rfl⟩, rfl⟩
            · go_wp2
              go_ret
              exact ⟨⟨_, rfl⟩, rfl⟩
          · go_wp2
            go_ret
            exact ⟨⟨_, rfl⟩, rfl⟩
        · go_wp2
          go_ret
          exact ⟨⟨_, rfl⟩, rfl⟩
  · go_enter Try.func13, Try.ntmps13
    go_wp2
    go_ret
    exact ⟨⟨_, rfl⟩, rfl⟩

theorem noSlash_iff (l : List UInt8) (h : noSlash l = true) : ∀ x ∈ l, x ≠ 47 := by
  intro x hx e
  have := List.all_eq_true.1 h x hx
  rw [e] at this
  simp at this

/-- The segments before k are short; hold no slash; are no star. -/
def ShortTo (ss : List ByteArray) (k : Nat) : Prop := ∀ j, j < k → (ss.getD j ByteArray.empty).size ≤ 1048576
def CleanTo (ss : List ByteArray) (k : Nat) : Prop := ∀ j, j < k → noSlash (L (ss.getD j ByteArray.empty)) = true
theorem ShortTo.step {ss : List ByteArray} {k : Nat} (h : ShortTo ss k) (hk : (ss.getD k ByteArray.empty).size ≤ 1048576) : ShortTo ss (k + 1) := fun j hj => by
  by_cases e : j = k
  · subst e; exact hk
  · exact h j (by omega)
theorem CleanTo.step {ss : List ByteArray} {k : Nat} (h : CleanTo ss k) (hk : noSlash (L (ss.getD k ByteArray.empty)) = true) : CleanTo ss (k + 1) := fun j hj => by
  by_cases e : j = k
  · subst e; exact hk
  · exact h j (by omega)
theorem mem_getD {ss : List ByteArray} {s : ByteArray} (h : s ∈ ss) : ∃ j, j < ss.length ∧ ss.getD j ByteArray.empty = s := by
  obtain ⟨j, hj, he⟩ := List.getElem_of_mem h
  exact ⟨j, hj, by simp [List.getD, List.getElem?_eq_getElem hj, he]⟩
theorem ShortTo.all {ss : List ByteArray} (h : ShortTo ss ss.length) : ∀ s ∈ ss, s.size ≤ 1048576 := fun s hs => by
  obtain ⟨j, hj, he⟩ := mem_getD hs
  rw [← he]; exact h j hj
theorem CleanTo.all {ss : List ByteArray} (h : CleanTo ss ss.length) : ∀ s ∈ segsOf ss, ∀ x ∈ s, x ≠ 47 := fun s hs => by
  obtain ⟨b, hb, rfl⟩ := List.mem_map.1 hs
  obtain ⟨j, hj, he⟩ := mem_getD hb
  rw [← he]; exact noSlash_iff _ (h j hj)

/-- What the law's rest leans on: nothing old has turned; the clone's cells; the pattern's own block. -/
def Keep (w0 w : World) (ad : Option Addr) (n c1 : Nat) (ss : List ByteArray) (rest : Bool) (pb : Nat) : Prop :=
  Below w0.heap.size w0 w ∧ Cells w ad n ss ∧ pb < w.heap.size ∧ w.cell? ⟨pb, 0, none⟩ = some (.slice ad n c1) ∧ w.cell? ⟨pb, 1, none⟩ = some (.bool rest)

theorem Keep.below {w0 w w' : World} {ad : Option Addr} {n c1 : Nat} {ss : List ByteArray} {rest : Bool} {pb : Nat} (h : Keep w0 w ad n c1 ss rest pb) (hb : Below w.heap.size w w') : Keep w0 w' ad n c1 ss rest pb := by
  obtain ⟨h1, h2, h3, h4, h5⟩ := h
  exact ⟨h1.trans (hb.mono h1.size), h2.below hb, Nat.lt_of_lt_of_le h3 hb.size, (hb.cell (by exact h3)).trans h4, (hb.cell (by exact h3)).trans h5⟩

theorem Keep.drew {w0 w : World} {ad : Option Addr} {n c1 : Nat} {ss : List ByteArray} {rest : Bool} {pb : Nat} (h : Keep w0 w ad n c1 ss rest pb) : Keep w0 w.drew ad n c1 ss rest pb :=
  ⟨h.1.drew, h.2.1, h.2.2.1, h.2.2.2.1, h.2.2.2.2⟩

theorem L_append (a b : ByteArray) : L (a ++ b) = L a ++ L b := by simp [L]

def NoStar (ss : List ByteArray) (k : Nat) : Prop := ∀ j, j < k → L (ss.getD j ByteArray.empty) ≠ [42]

set_option maxHeartbeats 4000000 in
set_option maxRecDepth 100000 in
theorem inst_law (a : Option Addr) (n c : Nat) (ss : List ByteArray) (rest : Bool) (fill tail : ByteArray) (w : World) (hn : n ≤ 9223372036854775807) (ha : a = none → n = 0 ∧ c = 0) (hS : Strs w a n ss) (hss : ∀ s ∈ ss, s.size ≤ 9223372036854775807) (hf : fill.size ≤ 9223372036854775807) (ht : tail.size ≤ 9223372036854775807) :
    Calls Try.prog 6 #[.slice a n c, .bool rest, .string fill, .string tail] w fun e w' => e = .returned (.bool true) ∧ Below w.heap.size w w' := by
  have hzz := zz13_any a n c ss rest fill tail w hn hS hss hf ht
  have HS : Hid (Strs w a n ss) := hS
  have HSS : Hid (∀ s ∈ ss, s.size ≤ 9223372036854775807) := hss
  have HA : Hid (a = none → n = 0 ∧ c = 0) := ha
  clear hS hss ha
  go_enter Try.func6, Try.ntmps6
  go_wp2_with fail
  refine hzz.mono ?_
  rintro e w' ⟨⟨B, rfl⟩, rfl⟩
  clear hzz
  cases B with
  | false =>
    go_wp2
    go_ret
    exact ⟨rfl, Below.refl _ _⟩
  | true =>
    by_cases hok : n ≤ 65536 ∧ fill.size ≤ 1048576 ∧ tail.size ≤ 1048576
    · obtain ⟨hn2, hf2, ht2⟩ := hok
      clear hf ht hn
      go_upto_region 6 with fail
      generalize hgen : ((tail.size : Int) + (fill.size : Int) + 2) = z0
      obtain ⟨zN, rfl⟩ : ∃ zN : Nat, z0 = (zN : Int) := ⟨z0.toNat, by omega⟩
      have hzN : zN ≤ 2097154 := by omega
      clear hgen
      by_cases hsz : zN ≤ 1048576
      · go_wp2
        go_loop [9, 10] (fun z i => ∃ k zn : Nat, z = .int .i64 zn ∧ i = .int .i64 k ∧ k ≤ n ∧ zn ≤ 1048576 ∧ ShortTo ss k) (fun _ i => n - (intOf i).toNat)
        case atStart => exact ⟨0, zN, rfl, rfl, Nat.zero_le _, hsz, fun j hj => by omega⟩
        case round =>
          obtain ⟨k, zn, rfl, rfl, hk, hz, hsh⟩ := hrel
          have HSH : Hid (ShortTo ss k) := hsh
          clear hsh
          by_cases hlt : k < n
          · obtain ⟨b, off, hab, hc⟩ := HS.out.2 k hlt
            have hstep := HSH.out.step
            obtain ⟨s, hs⟩ : ∃ s, s = ss.getD k ByteArray.empty := ⟨_, rfl⟩
            rw [← hs] at hc hstep
            have hsz' : s.size ≤ 9223372036854775807 := by
              rw [hs]
              have hkl : k < ss.length := by rw [HS.out.1]; exact hlt
              rw [List.getD_eq_getElem?_getD, List.getElem?_eq_getElem hkl]
              exact HSS.out _ (List.getElem_mem hkl)
            have HST : Hid (s.size ≤ 1048576 → ShortTo ss (k + 1)) := hstep
            clear hs hstep
            subst hab
            by_cases h1 : s.size ≤ 1048576
            · have HN : Hid (ShortTo ss (k + 1)) := HST.out h1
              clear HST HSH
              by_cases hstar : (s.toList == [42]) = true
              · go_upto_region 16 with fail
                generalize hgen : ((zn : Int) + (16 + (fill.size : Int) + 1)) = z1
                obtain ⟨zM, rfl⟩ : ∃ zM : Nat, z1 = (zM : Int) := ⟨z1.toNat, by omega⟩
                clear hgen
                by_cases h2 : zM ≤ 1048576
                · go_wp2
                  go_round
                  case rel => exact ⟨k + 1, zM, rfl, by go_num, by omega, h2, HN.out⟩
                  case measure => simp [intOf]; omega
                · go_wp2
                  go_ret
                  exact ⟨rfl, Below.refl _ _⟩
              · have hstar' : (s.toList == [42]) = false := by simpa using hstar
                clear hstar
                go_upto_region 16 with fail
                generalize hgen : ((zn : Int) + (16 + (s.size : Int) + 1)) = z1
                obtain ⟨zM, rfl⟩ : ∃ zM : Nat, z1 = (zM : Int) := ⟨z1.toNat, by omega⟩
                clear hgen
                by_cases h2 : zM ≤ 1048576
                · go_wp2
                  go_round
                  case rel => exact ⟨k + 1, zM, rfl, by go_num, by omega, h2, HN.out⟩
                  case measure => simp [intOf]; omega
                · go_wp2
                  go_ret
                  exact ⟨rfl, Below.refl _ _⟩
            · go_wp2
              go_ret
              exact ⟨rfl, Below.refl _ _⟩
          · have hkn : k = n := by omega
            have HSA : Hid (∀ s ∈ ss, s.size ≤ 1048576) := by
              have h := HSH.out
              rw [hkn, ← HS.out.1] at h
              exact h.all
            clear HSH hkn
            have hnf := fun W => noSlash_any fill W hf2
            by_cases hf0 : fill.size = 0
            · have hz0 : ((fill.size : Int) == 0) = true := beq_iff_eq.2 (by omega)
              go_wp2
              go_ret
              exact ⟨rfl, Below.refl _ _⟩
            · have hz0 : ((fill.size : Int) == 0) = false := beq_eq_false_iff_ne.2 (by omega)
              cases hfs : noSlash (L fill) with
              | false =>
                rw [hfs] at hnf
                go_wp2_with (go_at_call 14; refine (hnf _).mono ?_; rintro e w'' ⟨rfl, rfl⟩)
                go_ret
                exact ⟨rfl, Below.refl _ _⟩
              | true =>
                rw [hfs] at hnf
                have HFN : Hid (∀ x ∈ L fill, x ≠ 47) := noSlash_iff _ hfs
                have HFE : Hid (L fill ≠ []) := fun e => hf0 (by rw [← L_size, e]; rfl)
                clear hfs
                go_wp2_with (go_at_call 14; refine (hnf _).mono ?_; rintro e w'' ⟨rfl, hw''⟩; have hw3 := hw''.symm; subst hw3)
                clear hnf
                go_loop [11] (fun i => ∃ k : Nat, i = .int .i64 k ∧ k ≤ n ∧ CleanTo ss k) (fun i => n - (intOf i).toNat)
                case atStart => exact ⟨0, rfl, Nat.zero_le _, fun j hj => by omega⟩
                case round =>
                  obtain ⟨k2, rfl, hk2, hcl⟩ := hrel
                  have HCL : Hid (CleanTo ss k2) := hcl
                  clear hcl
                  by_cases hlt2 : k2 < n
                  · obtain ⟨b, off, hab, hc⟩ := HS.out.2 k2 hlt2
                    have hstep := HCL.out.step
                    obtain ⟨s, hs⟩ : ∃ s, s = ss.getD k2 ByteArray.empty := ⟨_, rfl⟩
                    rw [← hs] at hc hstep
                    have hsz2 : s.size ≤ 1048576 := by
                      rw [hs]
                      have hkl : k2 < ss.length := by rw [HS.out.1]; exact hlt2
                      rw [List.getD_eq_getElem?_getD, List.getElem?_eq_getElem hkl]
                      exact HSA.out _ (List.getElem_mem hkl)
                    have HST : Hid (noSlash (L s) = true → CleanTo ss (k2 + 1)) := hstep
                    clear hs hstep HCL
                    subst hab
                    have hns := fun W => noSlash_any s W hsz2
                    cases hfs : noSlash (L s) with
                    | false =>
                      rw [hfs] at hns
                      clear hfs
                      go_wp2_with (go_at_call 14; refine (hns _).mono ?_; rintro e w'' ⟨rfl, rfl⟩)
                      go_ret
                      exact ⟨rfl, Below.refl _ _⟩
                    | true =>
                      rw [hfs] at hns
                      have HN : Hid (CleanTo ss (k2 + 1)) := HST.out hfs
                      clear hfs
                      go_wp2_with (go_at_call 14; refine (hns _).mono ?_; rintro e w'' ⟨rfl, rfl⟩)
                      go_round
                      case rel => exact ⟨k2 + 1, by go_num, by omega, HN.out⟩
                      case measure => simp [intOf]; omega
                  · have HCA : Hid (∀ s ∈ segsOf ss, ∀ x ∈ s, x ≠ 47) := by
                      have h := HCL.out
                      rw [show k2 = ss.length by rw [HS.out.1]; omega] at h
                      exact h.all
                    clear HCL
                    have hclone := clone_any a n c ss w' (by omega) HA.out HS.out
                    have hlen : (segsOf ss).length = n := by rw [segsOf, List.length_map]; exact HS.out.1
                    have HW : Hid (matchAll (segsOf ss) rest (inst (L fill) (-1) (segsOf ss)) = (decide (0 < n) || rest)) := by
                      rw [Hid, whole_ok rest HFE.out HFN.out HCA.out, hlen]
                    have HLO : Hid (∀ t, matchAll (segsOf ss) rest (inst (L fill) (-1) (segsOf ss) ++ 47 :: t) = rest) := fun t => longer_ok rest t HFE.out HFN.out HCA.out
                    have HEM : Hid (∀ k : Nat, (segsOf ss)[k]? = some [42] → matchAll (segsOf ss) rest (inst (L fill) (k : Int) (segsOf ss)) = false) := fun k h => emptied_ok rest k h HFN.out HCA.out
                    have hma := fun ad c path W hp h => match_any ad n c ss rest path W (by omega) HS.out.1 hp h
                    have hin := fun ad c em W h => inst_any ad n c ss fill em W hn2 HS.out.1 HSA.out hf2 h
                    clear hlen
                    go_wp2_with fail
                    refine hclone.mono ?_
                    rintro e w1 ⟨ad, c1, rfl, hC1, hb1⟩
                    have HC1 : Hid (Cells w1 ad n ss) := hC1
                    clear hC1 hclone
                    go_wp2_with fail
                    go_loop [12, 13] (fun f i => ∃ k : Nat, f = .int .i64 (-1) ∧ i = .int .i64 k ∧ k ≤ n ∧ NoStar ss k) (fun _ i => n - (intOf i).toNat)
                    case atStart => exact ⟨0, rfl, rfl, Nat.zero_le _, fun j hj => by omega⟩
                    case round =>
                      obtain ⟨k3, rfl, rfl, hk3, hNS⟩ := hrel
                      have HNS : Hid (NoStar ss k3) := hNS
                      clear hNS
                      by_cases hlt3 : k3 < n
                      · obtain ⟨g, had, hg, hcg⟩ := HC1.out k3 hlt3
                        obtain ⟨s, hs⟩ : ∃ s, s = ss.getD k3 ByteArray.empty := ⟨_, rfl⟩
                        rw [← hs] at hcg
                        by_cases hstar : L s = [42]
                        · have hst : (s.toList == [42]) = true := by rw [L_toList, hstar]; rfl
                          have HK : Hid ((segsOf ss)[k3]? = some [42]) := by
                            have hkl : k3 < ss.length := by rw [HS.out.1]; exact hlt3
                            rw [Hid, segsOf, List.getElem?_map, List.getElem?_eq_getElem hkl]
                            rw [hs, List.getD_eq_getElem?_getD, List.getElem?_eq_getElem hkl] at hstar
                            simpa using hstar
                          clear hs hstar HNS
                          subst had
                          go_wp2_with fail
                          have hpos : 0 < n := by omega
                          refine (newPattern_any (some ⟨g, 0, none⟩) n c1 rest w1).mono ?_
                          rintro e w2 ⟨rfl, hb2⟩
                          have HK3 : Hid (Keep w' (w2.alloc (.cells #[.slice (some ⟨g, 0, none⟩) n c1, .bool rest] 33)) (some ⟨g, 0, none⟩) n c1 ss rest w2.heap.size) :=
                            ⟨(hb1.trans (hb2.mono hb1.size)).alloc (Nat.le_trans hb1.size hb2.size) _, HC1.out.below (hb2.alloc hb2.size _), by simp, by simp [go_sem], by simp [go_sem]⟩
                          clear hb1 hb2
                          go_wp2_with fail
                          refine (hin (some ⟨g, 0, none⟩) c1 (-1) _ HK3.out.2.1).mono ?_
                          rintro e w4 ⟨B, rfl, hBs, hBL, hb4⟩
                          have HK4 : Hid (Keep w' w4 (some ⟨g, 0, none⟩) n c1 ss rest w2.heap.size) := HK3.out.below hb4
                          have HBL : Hid (L B = inst (L fill) (-1) (segsOf ss)) := hBL
                          have q0 := HK4.out.2.2.2.1
                          have q1 := HK4.out.2.2.2.2
                          clear hb4 hBL HK3
                          have hm1 := hma (some ⟨g, 0, none⟩) c1 B w4 (by omega) HK4.out.2.1
                          rw [HBL.out, HW.out, decide_eq_true hpos, Bool.true_or] at hm1
                          go_wp2_with fail
                          refine hm1.mono ?_
                          rintro e w5 ⟨rfl, hb5⟩
                          have HK5 : Hid (Keep w' w5 (some ⟨g, 0, none⟩) n c1 ss rest w2.heap.size) := HK4.out.below hb5
                          clear hm1 hb5 HK4 q0 q1
                          have q0 := HK5.out.2.2.2.1
                          have q1 := HK5.out.2.2.2.2
                          have hm2 := hma (some ⟨g, 0, none⟩) c1 (B ++ ⟨#[47]⟩ ++ tail) w5 (by simp only [ByteArray.size_append]; have : (⟨#[47]⟩ : ByteArray).size = 1 := rfl; omega) HK5.out.2.1
                          rw [show L (B ++ ⟨#[47]⟩ ++ tail) = inst (L fill) (-1) (segsOf ss) ++ 47 :: L tail by rw [L_append, L_append, HBL.out]; simp [L], HLO.out] at hm2
                          have hB1 : (B.size : Int) ≤ 137438953472 := by omega
                          go_wp2_with fail
                          refine hm2.mono ?_
                          rintro e w6 ⟨rfl, hb6⟩
                          have HK6 : Hid (Keep w' w6 (some ⟨g, 0, none⟩) n c1 ss rest w2.heap.size) := HK5.out.below hb6
                          clear hm2 hb6 HK5 q0 q1
                          have q0 := HK6.out.2.2.2.1
                          have q1 := HK6.out.2.2.2.2
                          have hk0 : decide ((k3 : Int) < 0) = false := decide_eq_false (by omega)
                          have HKD : Hid (Keep w' w6.drew (some ⟨g, 0, none⟩) n c1 ss rest w2.heap.size) := HK6.out.drew
                          go_wp2_with fail
                          go_region_with (first
                            | (go_at_call 15; refine (hin (some ⟨g, 0, none⟩) c1 (k3 : Int) _ HKD.out.2.1).mono ?_; rintro e w7 ⟨B7, rfl, hBs7, hBL7, hb7⟩; have K7 : Keep w' w7 (some ⟨g, 0, none⟩) n c1 ss rest w2.heap.size := HKD.out.below hb7; have q2 := K7.2.2.2.1; have q3 := K7.2.2.2.2; have hm7 := hma (some ⟨g, 0, none⟩) c1 B7 w7 (by omega) K7.2.1; rw [hBL7, HEM.out k3 HK.out] at hm7; have HK7 : Hid (Keep w' w7 (some ⟨g, 0, none⟩) n c1 ss rest w2.heap.size) := K7; clear K7 hBL7 hb7)
                            | (go_at_call 11; refine hm7.mono ?_; rintro e w8 ⟨rfl, hb8⟩; have HK8 : Hid (Keep w' w8 (some ⟨g, 0, none⟩) n c1 ss rest w2.heap.size) := HK7.out.below hb8))
                          all_goals
                            go_wp2
                            go_ret
                            exact ⟨by first | rfl | (cases rest <;> rfl), HK8.out.1⟩
                        · have hst : (s.toList == [42]) = false := by rw [L_toList]; simpa using hstar
                          have HN : Hid (NoStar ss (k3 + 1)) := fun j hj => by
                            by_cases e : j = k3
                            · subst e; rw [← hs]; exact hstar
                            · exact HNS.out j (by omega)
                          clear hs hstar HNS
                          subst had
                          go_wp2
                          go_round
                          case rel => exact ⟨k3 + 1, rfl, by go_num, by omega, HN.out⟩
                          case measure => simp [intOf]; omega
                      · clear HNS
                        go_wp2_with fail
                        by_cases hpos : 0 < n
                        · have hposI : (0 : Int) < (n : Int) := by omega
                          refine (newPattern_any ad n c1 rest w1).mono ?_
                          rintro e w2 ⟨rfl, hb2⟩
                          have HK3 : Hid (Keep w' (w2.alloc (.cells #[.slice ad n c1, .bool rest] 33)) ad n c1 ss rest w2.heap.size) :=
                            ⟨(hb1.trans (hb2.mono hb1.size)).alloc (Nat.le_trans hb1.size hb2.size) _, HC1.out.below (hb2.alloc hb2.size _), by simp, by simp [go_sem], by simp [go_sem]⟩
                          clear hb1 hb2
                          go_wp2_with fail
                          refine (hin ad c1 (-1) _ HK3.out.2.1).mono ?_
                          rintro e w4 ⟨B, rfl, hBs, hBL, hb4⟩
                          have HK4 : Hid (Keep w' w4 ad n c1 ss rest w2.heap.size) := HK3.out.below hb4
                          have HBL : Hid (L B = inst (L fill) (-1) (segsOf ss)) := hBL
                          have q0 := HK4.out.2.2.2.1
                          have q1 := HK4.out.2.2.2.2
                          clear hb4 hBL HK3
                          have hm1 := hma ad c1 B w4 (by omega) HK4.out.2.1
                          rw [HBL.out, HW.out, decide_eq_true hpos, Bool.true_or] at hm1
                          go_wp2_with fail
                          refine hm1.mono ?_
                          rintro e w5 ⟨rfl, hb5⟩
                          have HK5 : Hid (Keep w' w5 ad n c1 ss rest w2.heap.size) := HK4.out.below hb5
                          clear hm1 hb5 HK4 q0 q1
                          have q0 := HK5.out.2.2.2.1
                          have q1 := HK5.out.2.2.2.2
                          have hm2 := hma ad c1 (B ++ ⟨#[47]⟩ ++ tail) w5 (by simp only [ByteArray.size_append]; have : (⟨#[47]⟩ : ByteArray).size = 1 := rfl; omega) HK5.out.2.1
                          rw [show L (B ++ ⟨#[47]⟩ ++ tail) = inst (L fill) (-1) (segsOf ss) ++ 47 :: L tail by rw [L_append, L_append, HBL.out]; simp [L], HLO.out] at hm2
                          have hB1 : (B.size : Int) ≤ 137438953472 := by omega
                          go_wp2_with fail
                          refine hm2.mono ?_
                          rintro e w6 ⟨rfl, hb6⟩
                          have HK6 : Hid (Keep w' w6 ad n c1 ss rest w2.heap.size) := HK5.out.below hb6
                          clear hm2 hb6 HK5 q0 q1
                          have q0 := HK6.out.2.2.2.1
                          have q1 := HK6.out.2.2.2.2
                          go_wp2_with fail
                          go_quiet (fail)
                          go_wp2
                          go_ret
                          exact ⟨by first | rfl | (cases rest <;> rfl), below_drewN HK6.out.1 _⟩
                        · obtain rfl : n = 0 := by omega
                          refine (newPattern_any ad 0 c1 rest w1).mono ?_
                          rintro e w2 ⟨rfl, hb2⟩
                          have HK3 : Hid (Keep w' (w2.alloc (.cells #[.slice ad 0 c1, .bool rest] 33)) ad 0 c1 ss rest w2.heap.size) :=
                            ⟨(hb1.trans (hb2.mono hb1.size)).alloc (Nat.le_trans hb1.size hb2.size) _, HC1.out.below (hb2.alloc hb2.size _), by simp, by simp [go_sem], by simp [go_sem]⟩
                          clear hb1 hb2
                          go_wp2_with fail
                          refine (hin ad c1 (-1) _ HK3.out.2.1).mono ?_
                          rintro e w4 ⟨B, rfl, hBs, hBL, hb4⟩
                          have HK4 : Hid (Keep w' w4 ad 0 c1 ss rest w2.heap.size) := HK3.out.below hb4
                          have HBL : Hid (L B = inst (L fill) (-1) (segsOf ss)) := hBL
                          have q0 := HK4.out.2.2.2.1
                          have q1 := HK4.out.2.2.2.2
                          clear hb4 hBL HK3
                          have hm1 := hma ad c1 B w4 (by omega) HK4.out.2.1
                          rw [HBL.out, HW.out, show (decide (0 < 0) || rest) = rest by cases rest <;> rfl] at hm1
                          go_wp2_with fail
                          refine hm1.mono ?_
                          rintro e w5 ⟨rfl, hb5⟩
                          have HK5 : Hid (Keep w' w5 ad 0 c1 ss rest w2.heap.size) := HK4.out.below hb5
                          clear hm1 hb5 HK4 q0 q1
                          have q0 := HK5.out.2.2.2.1
                          have q1 := HK5.out.2.2.2.2
                          have hm2 := hma ad c1 (B ++ ⟨#[47]⟩ ++ tail) w5 (by simp only [ByteArray.size_append]; have : (⟨#[47]⟩ : ByteArray).size = 1 := rfl; omega) HK5.out.2.1
                          rw [show L (B ++ ⟨#[47]⟩ ++ tail) = inst (L fill) (-1) (segsOf ss) ++ 47 :: L tail by rw [L_append, L_append, HBL.out]; simp [L], HLO.out] at hm2
                          have hB1 : (B.size : Int) ≤ 137438953472 := by omega
                          go_wp2_with fail
                          refine hm2.mono ?_
                          rintro e w6 ⟨rfl, hb6⟩
                          have HK6 : Hid (Keep w' w6 ad 0 c1 ss rest w2.heap.size) := HK5.out.below hb6
                          clear hm2 hb6 HK5 q0 q1
                          have q0 := HK6.out.2.2.2.1
                          have q1 := HK6.out.2.2.2.2
                          go_wp2_with fail
                          go_quiet (fail)
                          go_wp2
                          go_ret
                          exact ⟨by first | rfl | (cases rest <;> rfl), below_drewN HK6.out.1 _⟩
      · go_wp2
        go_ret
        exact ⟨rfl, Below.refl _ _⟩
    · rcases (by omega : 65536 < n ∨ (n ≤ 65536 ∧ 1048576 < fill.size) ∨ (n ≤ 65536 ∧ fill.size ≤ 1048576 ∧ 1048576 < tail.size)) with h | ⟨h1, h⟩ | ⟨h1, h2, h⟩
      all_goals
        clear hok
        go_wp2
        go_ret
        exact ⟨rfl, Below.refl _ _⟩

end Go.Proofs.Qxb6605283a.Walks
