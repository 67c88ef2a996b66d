/-
  THE WALK of zzDocStartModel; of documentStart and the model at a nil slice.
-/
import Derived.Test.Qxb6602462aDoc
namespace Go.Proofs.Qxb6602462a.Walks
open Go.RowKit Go.Proofs.Qxb6602462a.Plain Go.Proofs.Qxb6602462a.Laws
set_option linter.unusedVariables false
set_option linter.unusedSimpArgs false

/-- No marker ahead of k. -/
def NoMk (zs : List Int) (n k : Nat) : Prop := ∀ t, t < k → ¬ Mk zs n t
theorem NoMk.step {zs : List Int} {n k : Nat} (h : NoMk zs n k) (hm : ¬ Mk zs n k) : NoMk zs n (k + 1) := fun t ht => by
  by_cases e : t = k
  · subst e; exact hm
  · exact h t (by omega)

set_option maxHeartbeats 2000000 in
set_option maxRecDepth 100000 in
theorem model_any (b n : Nat) (zs : List Int) (w : World) (hn : n ≤ 1048576)
    (hc : ∀ i, i < n → w.cell? ⟨b, i, none⟩ = some (.int .u8 (zs.getD i 0))) :
    Calls Try.prog 21 #[.slice (some ⟨b, 0, none⟩) n n] w fun x w' => (∃ r, x = .returned (.int .i64 r) ∧ Res zs n r) ∧ w' = w := by
  have HC : Hid (∀ i, i < n → w.cell? ⟨b, i, none⟩ = some (.int .u8 (zs.getD i 0))) := hc
  clear hc
  go_enter Try.func21, Try.ntmps21
  go_wp2
  go_loop [3] (fun i => ∃ k : Nat, k ≤ n ∧ i = .int .i64 k ∧ NoMk zs n k) (fun i => n - (intOf i).toNat)
  case atStart => exact ⟨0, Nat.zero_le _, rfl, fun t ht => by omega⟩
  case round =>
    obtain ⟨k, hk, rfl, hno⟩ := hrel
    have HNo : Hid (NoMk zs n k) := hno
    clear hno
    by_cases hlt : k < n
    · by_cases hA : 0 < k ∧ zs.getD (k - 1) 0 ≠ 10
      · obtain ⟨hk0, hA⟩ := hA
        have HN : Hid (NoMk zs n (k + 1)) := HNo.out.step (fun m => by rcases m.1 with h | h; omega; exact hA h)
        obtain ⟨z, hz⟩ : ∃ z, z = zs.getD (k - 1) 0 := ⟨_, rfl⟩
        have hcz : w.cell? ⟨b, k - 1, none⟩ = some (.int .u8 z) := by rw [hz]; exact HC.out _ (by omega)
        have hzn : (z != 10) = true := by rw [hz]; simpa using hA
        clear hz hA
        go_wp2
        go_round
        case rel => exact ⟨k + 1, by omega, by go_num, HN.out⟩
        case measure => simp [intOf]; omega
      · have hls : k = 0 ∨ (0 < k ∧ w.cell? ⟨b, k - 1, none⟩ = some (.int .u8 10)) := by
          rcases Nat.eq_zero_or_pos k with h | h
          · exact .inl h
          · refine .inr ⟨h, ?_⟩
            rw [HC.out _ (by omega), show zs.getD (k - 1) 0 = 10 by exact Classical.not_not.1 fun h' => hA ⟨h, h'⟩]
        have HLS : Hid (k = 0 ∨ zs.getD (k - 1) 0 = 10) := by
          rcases Nat.eq_zero_or_pos k with h | h
          · exact .inl h
          · exact .inr (Classical.not_not.1 fun h' => hA ⟨h, h'⟩)
        clear hA
        by_cases hB : n < k + 3
        · have HN : Hid (NoMk zs n (k + 1)) := HNo.out.step (fun m => by have := m.2.1; omega)
          rcases hls with hk0 | ⟨hk0, hcz⟩
          · subst hk0
            go_wp2
            go_round
            case rel => exact ⟨1, by omega, rfl, HN.out⟩
            case measure => simp [intOf]; omega
          · go_wp2
            go_round
            case rel => exact ⟨k + 1, by omega, by go_num, HN.out⟩
            case measure => simp [intOf]; omega
        · obtain ⟨x0, e0⟩ : ∃ z, z = zs.getD k 0 := ⟨_, rfl⟩
          obtain ⟨x1, e1⟩ : ∃ z, z = zs.getD (k + 1) 0 := ⟨_, rfl⟩
          obtain ⟨x2, e2⟩ : ∃ z, z = zs.getD (k + 2) 0 := ⟨_, rfl⟩
          have c0 : w.cell? ⟨b, k, none⟩ = some (.int .u8 x0) := by rw [e0]; exact HC.out _ (by omega)
          have c1 : w.cell? ⟨b, k + 1, none⟩ = some (.int .u8 x1) := by rw [e1]; exact HC.out _ (by omega)
          have c2 : w.cell? ⟨b, k + 2, none⟩ = some (.int .u8 x2) := by rw [e2]; exact HC.out _ (by omega)
          by_cases hC : x0 = 45 ∧ x1 = 45 ∧ x2 = 45
          · obtain ⟨rfl, rfl, rfl⟩ := hC
            have E0 : Hid ((45 : Int) = zs.getD k 0) := e0
            have E1 : Hid ((45 : Int) = zs.getD (k + 1) 0) := e1
            have E2 : Hid ((45 : Int) = zs.getD (k + 2) 0) := e2
            clear e0 e1 e2
            have hB' : k + 3 ≤ n := by omega
            clear hB
            by_cases hD : n ≤ k + 3
            · have HR : Hid (Res zs n (k : Int)) := .inr ⟨k, hlt, rfl, ⟨HLS.out, hB', E0.out.symm, E1.out.symm, E2.out.symm, .inl (by omega)⟩, HNo.out⟩
              rcases hls with hk0 | ⟨hk0, hcz⟩
              · subst hk0
                go_wp2
                go_ret
                exact ⟨⟨_, rfl, HR.out⟩, rfl⟩
              · go_wp2
                go_ret
                exact ⟨⟨_, rfl, HR.out⟩, rfl⟩
            · have hD' : k + 3 < n := by omega
              clear hD hB'
              obtain ⟨x3, e3⟩ : ∃ z, z = zs.getD (k + 3) 0 := ⟨_, rfl⟩
              have c3 : w.cell? ⟨b, k + 3, none⟩ = some (.int .u8 x3) := by rw [e3]; exact HC.out _ (by omega)
              by_cases hE : x3 = 10 ∨ x3 = 32 ∨ x3 = 9 ∨ x3 = 13
              · have HR : Hid (Res zs n (k : Int)) := .inr ⟨k, hlt, rfl, ⟨HLS.out, by omega, E0.out.symm, E1.out.symm, E2.out.symm, .inr (by rw [← e3]; exact hE)⟩, HNo.out⟩
                clear e3
                rcases hls with hk0 | ⟨hk0, hcz⟩
                · subst hk0
                  rcases hE with rfl | rfl | rfl | rfl
                  all_goals
                    go_wp2
                    go_ret
                    exact ⟨⟨_, rfl, HR.out⟩, rfl⟩
                · rcases hE with rfl | rfl | rfl | rfl
                  all_goals
                    go_wp2
                    go_ret
                    exact ⟨⟨_, rfl, HR.out⟩, rfl⟩
              · have HN : Hid (NoMk zs n (k + 1)) := HNo.out.step (fun m => by
                  rcases m.2.2.2.2.2 with h | h
                  · omega
                  · exact hE (by rw [e3]; exact h))
                have z1 : (x3 == 10) = false := by simp; omega
                have z2 : (x3 == 32) = false := by simp; omega
                have z3 : (x3 == 9) = false := by simp; omega
                have z4 : (x3 == 13) = false := by simp; omega
                clear hE e3
                rcases hls with hk0 | ⟨hk0, hcz⟩
                · subst hk0
                  go_wp2
                  go_round
                  case rel => exact ⟨1, by omega, rfl, HN.out⟩
                  case measure => simp [intOf]; omega
                · go_wp2
                  go_round
                  case rel => exact ⟨k + 1, by omega, by go_num, HN.out⟩
                  case measure => simp [intOf]; omega
          · have HN : Hid (NoMk zs n (k + 1)) := HNo.out.step (fun m => hC ⟨by rw [e0]; exact m.2.2.1, by rw [e1]; exact m.2.2.2.1, by rw [e2]; exact m.2.2.2.2.1⟩)
            have hC' : (x0 != 45) = true ∨ (x0 = 45 ∧ (x1 != 45) = true) ∨ (x0 = 45 ∧ x1 = 45 ∧ (x2 != 45) = true) := by
              by_cases h0 : x0 = 45
              · by_cases h1 : x1 = 45
                · exact .inr (.inr ⟨h0, h1, by simpa using fun h => hC ⟨h0, h1, h⟩⟩)
                · exact .inr (.inl ⟨h0, by simpa using h1⟩)
              · exact .inl (by simpa using h0)
            clear hC e0 e1 e2
            rcases hls with hk0 | ⟨hk0, hcz⟩
            · subst hk0
              rcases hC' with h | ⟨rfl, h⟩ | ⟨rfl, rfl, h⟩
              all_goals
                go_wp2
                go_round
                case rel => exact ⟨1, by omega, rfl, HN.out⟩
                case measure => simp [intOf]; omega
            · rcases hC' with h | ⟨rfl, h⟩ | ⟨rfl, rfl, h⟩
              all_goals
                go_wp2
                go_round
                case rel => exact ⟨k + 1, by omega, by go_num, HN.out⟩
                case measure => simp [intOf]; omega
    · go_wp2
      go_ret
      exact ⟨⟨-1, rfl, .inl ⟨rfl, fun s hs => HNo.out s (by omega)⟩⟩, rfl⟩


set_option maxHeartbeats 400000 in
theorem model_nil (w : World) : Calls Try.prog 21 #[.slice none 0 0] w fun x w' => x = .returned (.int .i64 (-1)) ∧ w' = w := by
  go_enter Try.func21, Try.ntmps21
  go_wp2
  go_loop [3] (fun i => i = .int .i64 0) (fun _ => 0)
  case atStart => rfl
  case round =>
    subst hrel
    go_wp2
    go_ret
    exact ⟨rfl, rfl⟩

set_option maxHeartbeats 400000 in
theorem docStart_nil (w : World) : Calls Try.prog 25 #[.slice none 0 0] w fun x w' => x = .returned (.int .i64 (-1)) ∧ Below w.heap.size w w' := by
  go_enter Try.func25, Try.ntmps25
  go_wp2
  go_loopw [4] (fun _ wr => wr = w.alloc (.cells #[.slice none 0 0, .int .i64 0] 36)) (fun _ _ => 0)
  case atStart => rfl
  case round =>
    subst hrel
    have hcon := next_out w.heap.size 0 0 0 none (w.alloc (.cells #[.slice none 0 0, .int .i64 0] 36)) (by omega) (by omega) (by omega) (by simp [go_sem]) (by simp [go_sem])
    go_wp2_with (go_at_call 24; refine hcon.mono ?_; rintro x w' ⟨rfl, rfl⟩)
    go_ret
    exact ⟨rfl, (Below.refl _ _).alloc (Nat.le_refl _) _⟩

/-- ZZDocumentStart hands on. -/
theorem zzdoc_any (b n : Nat) (zs : List Int) (w : World) (hn : n ≤ 1048576) (hz : zs.length = n) (hb : Byt zs) (hbw : b < w.heap.size)
    (hc : ∀ i, i < n → w.cell? ⟨b, i, none⟩ = some (.int .u8 (zs.getD i 0))) :
    Calls Try.prog 20 #[.slice (some ⟨b, 0, none⟩) n n] w fun x w' => ∃ r, x = .returned (.int .i64 r) ∧ Res zs n r ∧ Below w.heap.size w w' := by
  have hcon := docStart_any b n zs w hn hz hb hbw hc
  clear hc hb
  go_enter Try.func20, Try.ntmps20
  go_wp2_with (go_at_call 25; refine hcon.mono ?_; rintro x w' ⟨r, rfl, hr, hb'⟩)
  go_ret
  exact ⟨r, rfl, hr, hb'⟩

theorem zzdoc_nil (w : World) : Calls Try.prog 20 #[.slice none 0 0] w fun x w' => x = .returned (.int .i64 (-1)) ∧ Below w.heap.size w w' := by
  have hcon := docStart_nil w
  go_enter Try.func20, Try.ntmps20
  go_wp2_with (go_at_call 25; refine hcon.mono ?_; rintro x w' ⟨rfl, hb'⟩)
  go_ret
  exact ⟨rfl, hb'⟩

theorem info5d : (Try.prog.info? 5).map (fun i => (i.zero, i.size, i.bytes)) = some (some (.int .u8 0), 1, 1) := by kernel_rfl
theorem size5d : (Try.prog.info? 5).map (·.size) = some 1 := by kernel_rfl

/-- Longer than the law's bound: true at once. -/
theorem doc_long (ad : Option Addr) (n c : Nat) (w : World) (hn : 1048576 < n) (hm : n ≤ 9223372036854775807) :
    Calls Try.prog 8 #[.slice ad n c] w fun e w' => e = .returned (.bool true) ∧ w' = w := by
  go_enter Try.func8, Try.ntmps8
  go_wp2
  go_ret
  exact ⟨rfl, rfl⟩

theorem doc_nil (w : World) : Calls Try.prog 8 #[.slice none 0 0] w fun e w' => e = .returned (.bool true) ∧ Below w.heap.size w w' := by
  have hq := fun (W : World) (a : Option Addr) (n c : Nat) => run_neq_slice_nil_any (P := Try.prog) W 24 5 a n c 0 0 Try.underlying24
  have hcon := zzdoc_nil w
  go_enter Try.func8, Try.ntmps8
  go_wp2_with (first
    | (go_at_call 20; refine hcon.mono ?_; rintro x w' ⟨rfl, hb'⟩)
    | (go_at_call 21; refine (model_nil _).mono ?_; rintro x w2 ⟨rfl, rfl⟩)
    | go_in)
  go_ret
  exact ⟨rfl, hb'⟩

set_option maxHeartbeats 1000000 in
theorem doc_some (x : Addr) (n c : Nat) (zs : List Int) (w : World) (hn : n ≤ 1048576) (hz : zs.length = n) (hb : Byt zs)
    (hcell : ∀ i, i < n → w.cell? (x.add i) = some (.int .u8 (zs.getD i 0))) :
    Calls Try.prog 8 #[.slice (some x) n c] w fun e w' => e = .returned (.bool true) ∧ Below w.heap.size w w' := by
  obtain ⟨i0, hi, hz0, hz1, hz2⟩ := info_parts info5d
  have hq := fun (W : World) (a : Option Addr) (n c : Nat) => run_neq_slice_nil_any (P := Try.prog) W 24 5 a n c 0 0 Try.underlying24
  obtain ⟨news, hnews⟩ : ∃ news, news = zs.map (Value.int .u8) := ⟨_, rfl⟩
  have HN : Hid (news = zs.map (Value.int .u8)) := hnews
  have HLN : Hid (news.length = n) := by subst hnews; simpa [Hid] using hz
  have H1 : Hid (∀ v ∈ news, v.oneCell' = true) := by subst hnews; exact ints_oneCell _ _
  clear hnews
  have HC : Hid (∀ i, i < n → w.cell? (x.add i) = some (.int .u8 (zs.getD i 0))) := hcell
  have HB : Hid (Byt zs) := hb
  have HZ : Hid (zs.length = n) := hz
  clear hcell hb hz
  go_enter Try.func8, Try.ntmps8
  go_wp2_with (first
    | (at_make; refine wpList_make_full _ rfl (.tmp 13) (.tmp 13) 24 rfl w.heap.size 5 i0 (.int .u8 0) 1 Try.underlying24 hi hz0 hz1 _ _ _ _ n rfl rfl rfl rfl (by rw [hz2]; omega) (by unfold maxLen; omega) (Nat.le_refl _) ?_; intro w1 hown1 hgrow1)
    | (refine wpList_copy_full _ rfl (.tmp 15) (.tmp 16) 24 24 rfl 5 Try.underlying24 size5d w.heap.size w.heap.size n c x rfl rfl _ hown1 news HLN.out ?_ H1.out ?_; rotate_left; intro w2 hown2 hgrow2)
    | (go_at_call 19; go_in))
  rotate_left
  · intro j v hv
    have hjl := (List.getElem?_eq_some_iff.1 hv).1
    rw [HLN.out] at hjl
    have h1 := HC.out j hjl
    rw [HN.out] at hv
    simp at hv
    obtain ⟨z, hz, rfl⟩ := hv
    have hd : zs.getD j 0 = z := by simp [List.getD, hz]
    rw [hd] at h1
    exact hgrow1.cell h1 (by simp)
  have hsz1 : w.heap.size < w1.heap.size := (hown1.lt _ rfl).2
  have hsz2 : w.heap.size < w2.heap.size := (hown2.lt _ rfl).2
  have hB2 : Below w.heap.size w w2 := ((Below.refl _ w).grown hgrow1 (Nat.le_refl _) (by simp)).grown hgrow2 (by omega) (by simp)
  have HD : Hid (∀ i, i < n → w2.cell? ⟨w.heap.size, i, none⟩ = some (.int .u8 (zs.getD i 0))) := by
    intro i hi
    rw [hown2.cellAt i (by omega), HN.out]
    have hil : i < zs.length := by rw [HZ.out]; exact hi
    simp [List.getD, List.getElem?_eq_getElem hil]
  clear hown1 hgrow1 hown2 hgrow2 HC hsz1
  refine (zzdoc_any w.heap.size n zs w2 hn HZ.out HB.out hsz2 HD.out).mono ?_
  rintro e w' ⟨r, rfl, hr, hb'⟩
  have hmod := model_any w.heap.size n zs w' hn (fun i hi => (hb'.cell (by exact hsz2)).trans (HD.out i hi))
  have HR : Hid (Res zs n r) := hr
  clear hr
  go_wp2_with (go_at_call 21; refine hmod.mono ?_; rintro x w'' ⟨⟨r', rfl, hr'⟩, rfl⟩; obtain rfl := HR.out.unique hr')
  go_ret
  exact ⟨by simp, hB2.trans (hb'.mono (by omega))⟩

end Go.Proofs.Qxb6602462a.Walks
