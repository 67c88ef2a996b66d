/-
  THE WALKS of the small functions: strings.Cut and strings.CutPrefix at a slash, zzCloneStrings, ZZNewPattern, zzNoSlash.
-/
import Derived.Test.Qxb6605283aRows
import Derived.Test.Qxb6605283aPlain
import Derived.Test.Qxb6605283aShelf
import Derived.WalkKit
import Derived.WalkSpells
import Derived.WalkLawsBesides
import Derived.Deep.QuietTactic
import Derived.BigQuiet
import Derived.Below
import Derived.Test.Qxb6605283aLaws
namespace Go.Proofs.Qxb6605283a.Walks
open Go.RowKit Go.Proofs.Qxb6605283a.Plain Go.Proofs.Qxb6605283a.Laws
set_option linter.unusedVariables false
set_option linter.unusedSimpArgs false

set_option maxHeartbeats 400000 in
theorem cut21 (t d r : ByteArray) (m : Bool) (w : World) (ht : t.size ≤ 1099511627776) (h : Cut3 t d r m) :
    Calls Try.prog 21 #[.string t, .string ⟨#[47]⟩] w fun e w' => e = .returned (.tuple #[.string d, .string r, .bool m]) ∧ ∃ q, w' = w.drewN q := by
  have hix := Try.stringslite_Index_one t 47 w
  rcases h with ⟨i, h1, h2, rfl, rfl, rfl⟩ | ⟨h1, rfl, rfl, rfl⟩
  · rw [h2] at hix
    clear h2
    have hi0 : (0 : Int) ≤ (i : Int) := by omega
    have hi1 : (i : Int) ≤ (t.size : Int) := by omega
    have hi2 : (i : Int) + 1 ≤ (t.size : Int) := by omega
    go_enter Try.func21, Try.ntmps21
    go_wp2_with (first | (go_at_call 23; refine hix.mono ?_; rintro e w' ⟨rfl, rfl⟩))
    go_quiet (fail)
    go_wp2
    go_ret3
    exact ⟨rfl, _, rfl⟩
  · rw [h1] at hix
    clear h1
    go_enter Try.func21, Try.ntmps21
    go_wp2_with (first | (go_at_call 23; refine hix.mono ?_; rintro e w' ⟨rfl, rfl⟩))
    go_ret3
    exact ⟨rfl, 0, rfl⟩

theorem cut_any (t d r : ByteArray) (m : Bool) (w : World) (ht : t.size ≤ 1099511627776) (h : Cut3 t d r m) :
    Calls Try.prog 18 #[.string t, .string ⟨#[47]⟩] w fun e w' => e = .returned (.tuple #[.string d, .string r, .bool m]) ∧ ∃ q, w' = w.drewN q := by
  have hc := cut21 t d r m w ht h
  clear h
  go_enter Try.func18, Try.ntmps18
  go_wp2_with (first | (go_at_call 21; refine hc.mono ?_; rintro e w' ⟨rfl, q, rfl⟩))
  go_ret3
  exact ⟨rfl, q, rfl⟩

set_option maxHeartbeats 400000 in
theorem prefix_yes (t : ByteArray) (w : World) (ht : t.size ≤ 1099511627776) (h0 : 0 < t.size) (h : t[0] = 47) :
    Calls Try.prog 17 #[.string t, .string ⟨#[47]⟩] w fun e w' => e = .returned (.tuple #[.string (t.extract 1 t.size), .bool true]) ∧ w' = w := by
  have h1 : (1 : Int) ≤ (t.size : Int) := by omega
  have hl : (t.extract 0 1).toList = [47] := by
    rw [L_toList, L_extract, List.drop_zero, show L t = (L t).drop 0 from rfl, L_drop t 0 h0, h]; rfl
  go_enter Try.func17, Try.ntmps17
  go_wp2
  go_ret2
  exact ⟨rfl, rfl⟩

set_option maxHeartbeats 400000 in
theorem prefix_no (t : ByteArray) (w : World) (ht : t.size ≤ 1099511627776) (h : ¬ (∃ h0 : 0 < t.size, t[0] = 47)) :
    Calls Try.prog 17 #[.string t, .string ⟨#[47]⟩] w fun e w' => e = .returned (.tuple #[.string t, .bool false]) ∧ w' = w := by
  by_cases h0 : 0 < t.size
  · have h1 : (1 : Int) ≤ (t.size : Int) := by omega
    have h47 : ¬ t[0] = 47 := fun e => h ⟨h0, e⟩
    have hl : ((t.extract 0 1).toList == [47]) = false := by
      rw [L_toList, L_extract, List.drop_zero, show L t = (L t).drop 0 from rfl, L_drop t 0 h0]
      simp [h47]
    clear h h47
    go_enter Try.func17, Try.ntmps17
    go_wp2
    go_ret2
    exact ⟨rfl, rfl⟩
  · have h1 : decide ((1 : Int) ≤ (t.size : Int)) = false := decide_eq_false (by omega)
    have h2 : (t.size : Int) < 1 := by omega
    clear h
    go_enter Try.func17, Try.ntmps17
    go_wp2
    go_ret2
    exact ⟨rfl, rfl⟩

theorem info9 : (Try.prog.info? 9).map (fun i => (i.zero, i.size, i.bytes)) = some (some (.string ⟨#[]⟩), 1, 16) := by kernel_rfl
theorem size9 : (Try.prog.info? 9).map (·.size) = some 1 := by kernel_rfl

theorem strs_oneCell (ss : List ByteArray) : ∀ u ∈ ss.map Value.string, u.oneCell' = true := by
  intro u hu
  obtain ⟨_, _, rfl⟩ := List.mem_map.1 hu
  rfl

set_option maxHeartbeats 400000 in
theorem clone_some (x : Addr) (n c : Nat) (ss : List ByteArray) (w : World) (hn : n ≤ 1048576) (hss : ss.length = n)
    (hcell : ∀ i, i < n → w.cell? (x.add i) = some (.string (ss.getD i ByteArray.empty))) :
    Calls Try.prog 9 #[.slice (some x) n c] w fun e w' => e = .returned (.slice (some ⟨w.heap.size, 0, none⟩) n n) ∧ (∀ i, i < n → w'.cell? ⟨w.heap.size, i, none⟩ = some (.string (ss.getD i ByteArray.empty))) ∧ w.heap.size < w'.heap.size ∧ Below w.heap.size w w' := by
  obtain ⟨i0, hi, hz0, hz1, hz2⟩ := info_parts info9
  have hq := fun (W : World) (a : Option Addr) (n c : Nat) => Lib.run_eql_slice_nil (P := Try.prog) W 29 9 a n c 0 0 Try.underlying29
  obtain ⟨news, hnews⟩ : ∃ news, news = ss.map Value.string := ⟨_, rfl⟩
  have HN : Hid (news = ss.map Value.string) := hnews
  have HLN : Hid (news.length = n) := by subst hnews; simpa [Hid] using hss
  have H1 : Hid (∀ v ∈ news, v.oneCell' = true) := by subst hnews; exact strs_oneCell _
  clear hnews
  have HC : Hid (∀ i, i < n → w.cell? (x.add i) = some (.string (ss.getD i ByteArray.empty))) := hcell
  have HSS : Hid (ss.length = n) := hss
  clear hcell hss
  go_enter Try.func9, Try.ntmps9
  go_wp2_with (first
    | (at_make; refine wpList_make_full _ rfl (.tmp 7) (.tmp 7) 29 rfl w.heap.size 9 i0 (.string ⟨#[]⟩) 1 Try.underlying29 hi hz0 hz1 _ _ _ _ n rfl rfl rfl rfl (by rw [hz2]; omega) (by unfold maxLen; omega) (Nat.le_refl _) ?_; intro w1 hown1 hgrow1)
    | (refine wpList_copy_full _ rfl (.tmp 9) (.tmp 10) 29 29 rfl 9 Try.underlying29 size9 w.heap.size w.heap.size n c x rfl rfl _ hown1 news HLN.out ?_ H1.out ?_; rotate_left; intro w2 hown2 hgrow2))
  rotate_left
  · intro j v hv
    have hjl := (List.getElem?_eq_some_iff.1 hv).1
    rw [HLN.out] at hjl
    have h1 := HC.out j hjl
    rw [HN.out] at hv
    simp at hv
    obtain ⟨z, hz, rfl⟩ := hv
    have hd : ss.getD j ByteArray.empty = z := by simp [List.getD, hz]
    rw [hd] at h1
    exact hgrow1.cell h1 (by simp)
  have hsz1 : w.heap.size < w1.heap.size := (hown1.lt _ rfl).2
  have hsz2 : w.heap.size < w2.heap.size := (hown2.lt _ rfl).2
  have hB2 : Below w.heap.size w w2 := ((Below.refl _ w).grown hgrow1 (Nat.le_refl _) (by simp)).grown hgrow2 (by omega) (by simp)
  have HD : Hid (∀ i, i < n → w2.cell? ⟨w.heap.size, i, none⟩ = some (.string (ss.getD i ByteArray.empty))) := by
    intro i hi
    rw [hown2.cellAt i (by omega), HN.out]
    have hil : i < ss.length := by rw [HSS.out]; exact hi
    simp [List.getD, List.getElem?_eq_getElem hil]
  clear hown1 hgrow1 hown2 hgrow2 HC hsz1
  go_ret
  exact ⟨rfl, HD.out, hsz2, hB2⟩

theorem clone_nil (w : World) : Calls Try.prog 9 #[.slice none 0 0] w fun e w' => e = .returned (.slice none 0 0) ∧ w' = w := by
  have hq := fun (W : World) (a : Option Addr) (n c : Nat) => Lib.run_eql_slice_nil (P := Try.prog) W 29 9 a n c 0 0 Try.underlying29
  go_enter Try.func9, Try.ntmps9
  go_wp2
  go_ret
  exact ⟨rfl, rfl⟩

theorem newPattern_any (ad : Option Addr) (n c : Nat) (rest : Bool) (w : World) :
    Calls Try.prog 10 #[.slice ad n c, .bool rest] w fun e w' => e = .returned (.agg #[.slice ad n c, .bool rest]) ∧ Below w.heap.size w w' := by
  go_enter Try.func10, Try.ntmps10
  go_wp2
  exact bodyPost_ret (v := .agg #[.slice ad n c, .bool rest]) (by simp [results, Try.results10, go_sem]) rfl ⟨rfl, (Below.refl _ _).alloc (Nat.le_refl _) _⟩

/-- zzNoSlash. -/
def noSlash (l : List UInt8) : Bool := l.all fun x => !(x == 47)

theorem slash_eq (c : UInt8) : ((c.toNat : Int) = 47) ↔ c = 47 := by
  constructor
  · intro h
    have : c.toNat = (47 : UInt8).toNat := by simp; omega
    exact UInt8.toNat_inj.1 this
  · intro h; subst h; rfl

theorem noSlash_take (s : ByteArray) (k : Nat) (hk : k < s.size) : noSlash ((L s).take (k + 1)) = (noSlash ((L s).take k) && !(s[k] == 47)) := by
  have hl : k < (L s).length := by rw [L_size]; exact hk
  rw [List.take_succ_eq_append_getElem hl]
  unfold noSlash
  rw [List.all_append]
  simp only [List.all_cons, List.all_nil, Bool.and_true]
  rfl

theorem noSlash_bad (s : ByteArray) (k : Nat) (hk : k < s.size) (h : s[k] = 47) : noSlash (L s) = false := by
  unfold noSlash
  rw [← Bool.not_eq_true, List.all_eq_true]
  intro hall
  have := hall _ (List.mem_of_getElem? (L_get s k hk))
  rw [h] at this
  simp at this

set_option maxHeartbeats 400000 in
theorem noSlash_any (s : ByteArray) (w : World) (hs : s.size ≤ 1048576) : Calls Try.prog 14 #[.string s] w fun e w' => e = .returned (.bool (noSlash (L s))) ∧ w' = w := by
  go_enter Try.func14, Try.ntmps14
  go_wp2
  go_loop [3] (fun i => ∃ k : Nat, k ≤ s.size ∧ i = .int .i64 k ∧ noSlash ((L s).take k) = true) (fun i => s.size - (intOf i).toNat)
  case atStart => exact ⟨0, Nat.zero_le _, rfl, rfl⟩
  case round =>
    obtain ⟨k, hk, rfl, hno⟩ := hrel
    have HN : Hid (noSlash ((L s).take k) = true) := hno
    clear hno
    by_cases hlt : k < s.size
    · by_cases h47 : s[k] = 47
      · have hb : ((s[k].toNat : Int) == 47) = true := by simpa using (slash_eq _).2 h47
        have HR : Hid (noSlash (L s) = false) := noSlash_bad s k hlt h47
        clear h47 HN
        go_wp2
        go_ret
        exact ⟨by rw [HR.out]; rfl, rfl⟩
      · have hb : ((s[k].toNat : Int) == 47) = false := by simpa using fun h => h47 ((slash_eq _).1 h)
        have HN' : Hid (noSlash ((L s).take (k + 1)) = true) := by rw [Hid, noSlash_take s k hlt, HN.out]; simpa using h47
        clear h47 HN
        go_wp2
        go_round
        case rel => exact ⟨k + 1, by omega, by go_num, HN'.out⟩
        case measure => simp [intOf]; omega
    · have HR : Hid (noSlash (L s) = true) := by
        have := HN.out
        rw [List.take_of_length_le (by rw [L_size]; omega)] at this
        exact this
      clear HN
      go_wp2
      go_ret
      exact ⟨by rw [HR.out]; rfl, rfl⟩

end Go.Proofs.Qxb6605283a.Walks
