/-
  THE WALKS of filledLines and of its model.
-/
import Derived.Test.Qxb6602932aWalks
namespace Go.Proofs.Qxb6602932a.Walks
open Go.RowKit Go.Proofs.Qxb6602932a.Plain
set_option linter.unusedVariables false
set_option linter.unusedSimpArgs false

/-- The length of a slice in a slot: for the loop's measure. -/
def sliceLen : Value → Nat
  | .slice _ n _ => n
  | _ => 0

theorem line_cells {W : World} {b n p e : Nat} {zs : List Int} (hz : zs.length = n) (hen : e ≤ n) (hc : ∀ i, i < n → W.cell? ⟨b, i, none⟩ = some (.int .u8 (zs.getD i 0))) :
    ∀ i, i < e - p → W.cell? ⟨b, p + i, none⟩ = some (.int .u8 (((zs.drop p).take (e - p)).getD i 0)) := by
  intro i hi
  rw [hc _ (by omega)]
  simp [List.getD, List.getElem?_take, hi]

theorem index_any (b n p : Nat) (zs : List Int) (W : World) (hz : zs.length = n)
    (hc : ∀ i, i < n → W.cell? ⟨b, i, none⟩ = some (.int .u8 (zs.getD i 0))) :
    Calls Try.prog 22 #[.slice (some ⟨b, p, none⟩) (n - p) (n - p), .int .u8 10] W fun e w' => e = .returned (.int .i64 (Lib.indexByte (Lib.bytesOf (zs.drop p)) 10)) ∧ W = w' := by
  refine (Try.bytes_IndexByte b p (n - p) (n - p) (zs.drop p) 10 W (by simp; omega) fun i hi => ?_).mono fun e w' ⟨h1, h2⟩ => ⟨h1, h2.symm⟩
  rw [Lib.getD_drop]
  exact hc (p + i) (by omega)

theorem trim_any (b h n p e c tl : Nat) (zs : List Int) (W : World) (hz : zs.length = n) (hb : Byt zs) (hpe : p ≤ e) (hen : e ≤ n) (hn : n ≤ 1048576) (hec : e - p ≤ c) (hT : Trim zs p e tl)
    (hc : ∀ i, i < n → W.cell? ⟨b, i, none⟩ = some (.int .u8 (zs.getD i 0))) (h2 : W.cell? ⟨h, 0, none⟩ = some (.int .u8 13)) :
    Calls Try.prog 23 #[.slice (some ⟨b, p, none⟩) (e - p) c, .slice (some ⟨h, 0, none⟩) 1 1] W fun x w' => x = .returned (.slice (some ⟨b, p, none⟩) tl c) ∧ W = w' := by
  have hk := Try.bytes_TrimSuffix b p (e - p) c h 0 1 1 ((zs.drop p).take (e - p)) [13] W (by simp; omega) rfl hec (by omega) (line_cells hz hen hc)
    (fun i hi => by obtain rfl : i = 0 := by omega
                    exact h2)
  have hv : Lib.bytesTrimSuffix b p (e - p) c ((zs.drop p).take (e - p)) [13] = .slice (some ⟨b, p, none⟩) tl c := by
    unfold Lib.bytesTrimSuffix
    rw [cr_suffix hb hz hpe hen]
    rcases hT with ⟨h1, h2, rfl⟩ | ⟨h1, rfl⟩
    · rw [decide_eq_true ⟨h1, h2⟩]; rfl
    · rw [decide_eq_false h1]; rfl
  rw [hv] at hk
  exact hk.mono fun e w' ⟨h1, h2⟩ => ⟨h1, h2.symm⟩

set_option maxHeartbeats 2000000 in
set_option maxRecDepth 100000 in
theorem filled_any (b n : Nat) (zs : List Int) (w : World) (hn : n ≤ 1048576) (hz : zs.length = n) (hb : Byt zs) (hbw : b < w.heap.size)
    (hc : ∀ i, i < n → w.cell? ⟨b, i, none⟩ = some (.int .u8 (zs.getD i 0))) :
    Calls Try.prog 20 #[.slice (some ⟨b, 0, none⟩) n n] w fun x w' => x = .returned (.int .i64 (cnt 0 0 zs : Nat)) ∧ Below w.heap.size w w' := by
  obtain ⟨T, hT⟩ : ∃ T, T = cnt 0 0 zs := ⟨_, rfl⟩
  have hTn : T ≤ n + 1 := by have := cnt_half zs 0 0; rw [hT]; simp at this; omega
  rw [← hT]
  have HT : Hid (T = cnt 0 0 zs) := hT
  have HC : Hid (∀ i, i < n → w.cell? ⟨b, i, none⟩ = some (.int .u8 (zs.getD i 0))) := hc
  have HB : Hid (Byt zs) := hb
  have HZ : Hid (zs.length = n) := hz
  clear hc hb hz hT
  go_enter Try.func20, Try.ntmps20
  go_wp2
  go_loopw [0, 3] (fun v c wr => ∃ (ad : Option Addr) (l p m : Nat), v = .slice ad l l ∧ c = .int .i64 m ∧ l + p = n ∧ (0 < l → ad = some ⟨b, p, none⟩) ∧ m + cnt 0 0 (zs.drop p) = T ∧ Below w.heap.size w wr) (fun v _ _ => sliceLen v)
  case atStart => exact ⟨_, n, 0, 0, rfl, rfl, by omega, fun _ => rfl, by simpa using HT.out.symm, Below.refl _ _⟩
  case round =>
    obtain ⟨ad, l, p, m, rfl, rfl, hlp, had, hm, hbl⟩ := hrel
    have hmT : m ≤ T := by omega
    have HM : Hid (m + cnt 0 0 (zs.drop p) = T) := hm
    clear hm
    have hsz := hbl.size
    by_cases hl : 0 < l
    · have hda := had hl
      clear had
      subst hda
      have hln : l = n - p := by omega
      subst hln
      have HCr : Hid (∀ i, i < n → wr.cell? ⟨b, i, none⟩ = some (.int .u8 (zs.getD i 0))) := fun i hi => by rw [hbl.cell (by exact hbw)]; exact HC.out i hi
      obtain ⟨e, q, hL⟩ := line_exists zs n p (by omega)
      have hlt := hL.lt
      obtain ⟨tl, hTr⟩ := trim_exists zs p e
      have htl := hTr.le
      have HTr : Hid (Trim zs p e tl) := hTr
      have HL : Hid (Line zs n p e q) := hL
      have hix := index_any b n p zs wr HZ.out HCr.out
      have HCN : Hid (∀ k : Nat, (Full zs p e ∧ k = 1) ∨ (¬ Full zs p e ∧ k = 0) → m + k + cnt 0 0 (zs.drop q) = T) := fun k hk => by
        have := hL.cnt HZ.out k hk
        have := HM.out
        omega
      clear hTr HM
      have htrim := fun W c hc h1 h2 => trim_any b wr.heap.size n p e c tl zs W HZ.out HB.out (by omega) (by omega) hn hc HTr.out h1 h2
      have HCX : Hid (∀ (nq : Nat) (o : Obj) (i : Nat), i < n → ((wr.drewN nq).alloc o).cell? ⟨b, i, none⟩ = some (.int .u8 (zs.getD i 0))) := fun nq o i hi => by
        rw [World.cell?_alloc_lt _ _ _ (by show b < wr.heap.size; omega)]; exact HCr.out i hi
      have HDX : Hid (∀ nq : Nat, ((wr.drewN nq).alloc (.cells #[.int .u8 13] 5)).cell? ⟨wr.heap.size, 0, none⟩ = some (.int .u8 13)) := fun nq => World.cell?_alloc_new (w := wr.drewN nq) _ _ _
      have HBX : Hid (∀ (nq : Nat) (o : Obj), Below w.heap.size w ((wr.drewN nq).alloc o)) := fun nq o => (below_drewN hbl nq).alloc (by show w.heap.size ≤ wr.heap.size; omega) _
      have HPE : Hid (p + (e - p + 1) = e + 1) := by have := hL.lt; simp only [Hid]; omega
      by_cases he : e < n
      · obtain ⟨hi, rfl⟩ := hL.index_yes HZ.out HB.out he
        rw [hi] at hix
        clear hi hL
        have i1 : (0 : Int) ≤ ((e - p : Nat) : Int) := by omega
        have i2 : ((e - p : Nat) : Int) ≤ ((n - p : Nat) : Int) := by omega
        have i3 : ((e - p : Nat) : Int) + 1 ≤ ((n - p : Nat) : Int) := by omega
        by_cases hf : 0 < tl
        · have HN := HCN.out 1 (.inl ⟨HTr.out.full.1 hf, rfl⟩)
          have HN' : Hid (m + 1 + cnt 0 0 (zs.drop (e + 1)) = T) := HN
          have hmT' : m + 1 ≤ T := by omega
          clear HN
          go_wp2_with (first | (go_at_call 22; refine hix.mono ?_; rintro x w' ⟨rfl, rfl⟩))
          clear hix
          go_quiet (fail)
          go_wp2_with (first | (go_at_call 23; refine (htrim _ _ (by omega) (HCX.out _ _) (HDX.out _)).mono ?_; rintro x w' ⟨rfl, rfl⟩))
          all_goals
            go_roundw
            case rel => exact ⟨_, n - p - (e - p + 1), e + 1, m + 1, rfl, by go_num, by omega, fun h => by rw [if_neg (by omega)]; exact congrArg (fun o => some (⟨b, o, none⟩ : Addr)) (HPE.out), HN'.out, HBX.out _ _⟩
            case measure => simp [sliceLen]; omega
        · have hf0 : tl = 0 := by omega
          subst hf0
          have HN := HCN.out 0 (.inr ⟨fun h => hf (HTr.out.full.2 h), rfl⟩)
          have HN' : Hid (m + 0 + cnt 0 0 (zs.drop (e + 1)) = T) := HN
          clear HN
          go_wp2_with (first | (go_at_call 22; refine hix.mono ?_; rintro x w' ⟨rfl, rfl⟩))
          clear hix
          go_quiet (fail)
          go_wp2_with (first | (go_at_call 23; refine (htrim _ _ (by omega) (HCX.out _ _) (HDX.out _)).mono ?_; rintro x w' ⟨rfl, rfl⟩))
          all_goals
            go_roundw
            case rel => exact ⟨_, n - p - (e - p + 1), e + 1, m, rfl, by go_num, by omega, fun h => by rw [if_neg (by omega)]; exact congrArg (fun o => some (⟨b, o, none⟩ : Addr)) (HPE.out), by simpa using HN'.out, HBX.out _ _⟩
            case measure => simp [sliceLen]; omega
      · obtain ⟨hi, rfl, rfl⟩ := hL.index_no HZ.out HB.out he
        rw [hi] at hix
        clear hi hL
        have HCX0 : Hid (∀ (o : Obj) (i : Nat), i < e → (wr.alloc o).cell? ⟨b, i, none⟩ = some (.int .u8 (zs.getD i 0))) := fun o i hi => by
          rw [World.cell?_alloc_lt _ _ _ (by show b < wr.heap.size; omega)]; exact HCr.out i hi
        have HDX0 : Hid ((wr.alloc (.cells #[.int .u8 13] 5)).cell? ⟨wr.heap.size, 0, none⟩ = some (.int .u8 13)) := World.cell?_alloc_new (w := wr) _ _ _
        have HBX0 : Hid (∀ (o : Obj), Below w.heap.size w (wr.alloc o)) := fun o => hbl.alloc (by omega) _
        by_cases hf : 0 < tl
        · have HN := HCN.out 1 (.inl ⟨HTr.out.full.1 hf, rfl⟩)
          have HN' : Hid (m + 1 + cnt 0 0 (zs.drop e) = T) := HN
          have hmT' : m + 1 ≤ T := by omega
          clear HN
          go_wp2_with (first | (go_at_call 22; refine hix.mono ?_; rintro x w' ⟨rfl, rfl⟩) | (go_at_call 23; refine (htrim _ _ (by omega) (HCX0.out _) HDX0.out).mono ?_; rintro x w' ⟨rfl, rfl⟩))
          go_roundw
          case rel => exact ⟨none, 0, e, m + 1, rfl, by go_num, by omega, fun h => by omega, HN'.out, HBX0.out _⟩
          case measure => simp [sliceLen]; omega
        · have hf0 : tl = 0 := by omega
          subst hf0
          have HN := HCN.out 0 (.inr ⟨fun h => hf (HTr.out.full.2 h), rfl⟩)
          have HN' : Hid (m + 0 + cnt 0 0 (zs.drop e) = T) := HN
          clear HN
          go_wp2_with (first | (go_at_call 22; refine hix.mono ?_; rintro x w' ⟨rfl, rfl⟩) | (go_at_call 23; refine (htrim _ _ (by omega) (HCX0.out _) HDX0.out).mono ?_; rintro x w' ⟨rfl, rfl⟩))
          go_roundw
          case rel => exact ⟨none, 0, e, m, rfl, rfl, by omega, fun h => by omega, by simpa using HN'.out, HBX0.out _⟩
          case measure => simp [sliceLen]; omega
    · have hl0 : l = 0 := by omega
      subst hl0
      have hmT2 : m = T := by
        have := HM.out
        rw [show zs.drop p = [] by rw [List.drop_eq_nil_iff]; have := HZ.out; omega] at this
        simp [cnt, fillB_zero] at this
        exact this
      subst hmT2
      go_wp2
      go_ret
      exact ⟨rfl, hbl⟩


/-- The model's state at k: n lines counted, 's' bytes seen of the line, its first byte f. -/
def MI (zs : List Int) (T k m s : Nat) (f : Int) : Prop := s ≤ 2 ∧ m + cnt s f (zs.drop k) = T

set_option maxHeartbeats 2000000 in
set_option maxRecDepth 100000 in
theorem model_any (b n : Nat) (zs : List Int) (w : World) (hn : n ≤ 1048576) (hz : zs.length = n)
    (hc : ∀ i, i < n → w.cell? ⟨b, i, none⟩ = some (.int .u8 (zs.getD i 0))) :
    Calls Try.prog 12 #[.slice (some ⟨b, 0, none⟩) n n] w fun x w' => x = .returned (.int .i64 (cnt 0 0 zs : Nat)) ∧ w' = w := by
  obtain ⟨T, hT⟩ : ∃ T, T = cnt 0 0 zs := ⟨_, rfl⟩
  have hTn : T ≤ n + 1 := by have := cnt_half zs 0 0; rw [hT]; simp at this; omega
  rw [← hT]
  have HT : Hid (T = cnt 0 0 zs) := hT
  have HC : Hid (∀ i, i < n → w.cell? ⟨b, i, none⟩ = some (.int .u8 (zs.getD i 0))) := hc
  have HZ : Hid (zs.length = n) := hz
  clear hc hz hT
  go_enter Try.func12, Try.ntmps12
  go_wp2
  go_loop [3, 4, 5, 6] (fun c s f i => ∃ (k m sn : Nat) (fi : Int), c = .int .i64 m ∧ s = .int .i64 sn ∧ f = .int .u8 fi ∧ i = .int .i64 k ∧ k ≤ n ∧ MI zs T k m sn fi) (fun _ _ _ i => n - (intOf i).toNat)
  case atStart => exact ⟨0, 0, 0, 0, rfl, rfl, rfl, rfl, Nat.zero_le _, by omega, by simpa using HT.out.symm⟩
  case round =>
    obtain ⟨k, m, sn, fi, rfl, rfl, rfl, rfl, hk, hI⟩ := hrel
    have hs2 : sn ≤ 2 := hI.1
    have hmT : m ≤ T := by have := hI.2; omega
    have HI : Hid (m + cnt sn fi (zs.drop k) = T) := hI.2
    clear hI
    by_cases hlt : k < n
    · obtain ⟨x, hx⟩ : ∃ x, x = zs.getD k 0 := ⟨_, rfl⟩
      have hcx : w.cell? ⟨b, k, none⟩ = some (.int .u8 x) := by rw [hx]; exact HC.out k hlt
      have hdr : zs.drop k = x :: zs.drop (k + 1) := by rw [hx]; exact drop_cons zs k (by rw [HZ.out]; exact hlt)
      clear hx
      by_cases h10 : x = 10
      · subst h10
        have HN : Hid (m + fillB sn fi + cnt 0 fi (zs.drop (k + 1)) = T) := by have := HI.out; rw [hdr, cnt_nl] at this; simp only [Hid]; omega
        clear hdr HI
        by_cases hf : 2 ≤ sn ∨ (sn = 1 ∧ fi ≠ 13)
        · have e1 : fillB sn fi = 1 := by simp [fillB, hf]
          rw [e1] at HN
          have hmT' : m + 1 ≤ T := by have := HN.out; omega
          rcases hf with hf | ⟨rfl, hf⟩
          · go_wp2
            go_round
            case rel => exact ⟨k + 1, m + 1, 0, fi, by go_num, rfl, rfl, by go_num, by omega, by omega, HN.out⟩
            case measure => simp [intOf]; omega
          · have hf' : (fi != 13) = true := by simpa using hf
            clear hf
            go_wp2
            go_round
            case rel => exact ⟨k + 1, m + 1, 0, fi, by go_num, rfl, rfl, by go_num, by omega, by omega, HN.out⟩
            case measure => simp [intOf]; omega
        · have e1 : fillB sn fi = 0 := by simp only [fillB, if_neg hf]
          rw [e1] at HN
          have hf2 : sn = 0 ∨ (sn = 1 ∧ (fi != 13) = false) := by
            rcases (by omega : sn = 0 ∨ sn = 1) with h | h
            · exact .inl h
            · refine .inr ⟨h, ?_⟩
              have : fi = 13 := Classical.not_not.1 fun h' => hf (.inr ⟨h, h'⟩)
              simp [this]
          clear hf
          rcases hf2 with rfl | ⟨rfl, hf⟩
          all_goals
            go_wp2
            go_round
            case rel => exact ⟨k + 1, m, 0, fi, rfl, rfl, rfl, by go_num, by omega, by omega, HN.out⟩
            case measure => simp [intOf]; omega
      · have HN : Hid (m + cnt (if sn < 2 then sn + 1 else sn) (if sn = 0 then x else fi) (zs.drop (k + 1)) = T) := by have := HI.out; rw [hdr, cnt_byte _ _ _ _ h10] at this; exact this
        have hb10 : (x == 10) = false := by simpa using h10
        clear hdr HI h10
        rcases (by omega : sn = 0 ∨ sn = 1 ∨ sn = 2) with rfl | rfl | rfl
        · go_wp2
          go_round
          case rel => exact ⟨k + 1, m, 1, x, rfl, rfl, rfl, by go_num, by omega, by omega, by simpa using HN.out⟩
          case measure => simp [intOf]; omega
        · go_wp2
          go_round
          case rel => exact ⟨k + 1, m, 2, fi, rfl, rfl, rfl, by go_num, by omega, by omega, by simpa using HN.out⟩
          case measure => simp [intOf]; omega
        · go_wp2
          go_round
          case rel => exact ⟨k + 1, m, 2, fi, rfl, rfl, rfl, by go_num, by omega, by omega, by simpa using HN.out⟩
          case measure => simp [intOf]; omega
    · have HN : Hid (m + fillB sn fi = T) := by
        have := HI.out
        rw [show zs.drop k = [] by rw [List.drop_eq_nil_iff]; have := HZ.out; omega] at this
        exact this
      clear HI
      by_cases hf : 2 ≤ sn ∨ (sn = 1 ∧ fi ≠ 13)
      · have e1 : fillB sn fi = 1 := by simp [fillB, hf]
        rw [e1] at HN
        have hmT' : m + 1 ≤ T := by have := HN.out; omega
        rcases hf with hf | ⟨rfl, hf⟩
        · go_wp2
          go_ret
          exact ⟨congrArg (fun z : Nat => Ending.returned (.int .i64 (z : Int))) HN.out, rfl⟩
        · have hf' : (fi != 13) = true := by simpa using hf
          clear hf
          go_wp2
          go_ret
          exact ⟨congrArg (fun z : Nat => Ending.returned (.int .i64 (z : Int))) HN.out, rfl⟩
      · have e1 : fillB sn fi = 0 := by simp only [fillB, if_neg hf]
        rw [e1] at HN
        have hf2 : sn = 0 ∨ (sn = 1 ∧ (fi != 13) = false) := by
          rcases (by omega : sn = 0 ∨ sn = 1) with h | h
          · exact .inl h
          · refine .inr ⟨h, ?_⟩
            have : fi = 13 := Classical.not_not.1 fun h' => hf (.inr ⟨h, h'⟩)
            simp [this]
        clear hf
        rcases hf2 with rfl | ⟨rfl, hf⟩
        all_goals
          go_wp2
          go_ret
          exact ⟨congrArg (fun z : Nat => Ending.returned (.int .i64 (z : Int))) HN.out, rfl⟩

end Go.Proofs.Qxb6602932a.Walks
