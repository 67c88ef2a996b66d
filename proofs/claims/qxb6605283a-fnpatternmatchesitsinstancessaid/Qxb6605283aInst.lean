/-
  THE WALK of zzInstance.
-/
import Derived.Test.Qxb6605283aCount
import Derived.Test.Qxb6605283aInstPlain
import Derived.Lib.AppendStr
import Derived.Lib.Bytes
import Derived.Laws.BytesArg
namespace Go.Proofs.Qxb6605283a.Walks
open Go.RowKit Go.Proofs.Qxb6605283a.Plain Go.Proofs.Qxb6605283a.Laws
set_option linter.unusedVariables false
set_option linter.unusedSimpArgs false

theorem info5 : (Try.prog.info? 5).map (fun i => (i.zero, i.size, i.bytes)) = some (some (.int .u8 0), 1, 1) := by kernel_rfl

/-- Bytes as cells. -/
def bcells (l : List UInt8) : List Value := l.map fun b => Value.int .u8 b.toNat

theorem bcells_append (a b : List UInt8) : bcells (a ++ b) = bcells a ++ bcells b := by simp [bcells]
theorem bcells_length (l : List UInt8) : (bcells l).length = l.length := by simp [bcells]
theorem bcells_str (s : ByteArray) : Lib.strCells s = bcells (L s) := rfl

theorem owns_form {w : World} {base : Nat} {e : TypeId} {v : Value} {n : Nat} {xs : List Value} (h : w.ownsRow base e 1 v n xs) (hn : 0 < n) : ∃ g cap, v = .slice (some ⟨g, 0, none⟩) n cap := by
  rcases h.2 with ⟨_, h0⟩ | ⟨g, cap, cur, hv, _⟩
  · omega
  · exact ⟨g, cap, hv⟩

theorem strOf_L (l : List UInt8) : L (strOfNums (l.map fun b => (b.toNat : Int))) = l := by
  unfold L
  rw [strOfNums_data, List.map_map]
  conv => rhs; rw [← List.map_id l]
  apply List.map_congr_left
  intro b _
  simp

/-- What holds at k: the buffer's bytes. -/
def BU (fill : List UInt8) (em : Int) (segs : List (List UInt8)) (k : Nat) (xs : List UInt8) : Prop :=
  xs = 47 :: joinS ((pieces fill em 0 segs).take k)

theorem BU.step0 {fill : List UInt8} {em : Int} {segs : List (List UInt8)} {s : List UInt8} {xs : List UInt8} (h : BU fill em segs 0 xs) (hs : segs[0]? = some s) : BU fill em segs 1 (xs ++ pieceOf fill em 0 s) := by
  unfold BU at *
  rw [h, join_take (k := 0) (p := pieceOf fill em 0 s) (by rw [pieces_get, hs]; rfl)]
  simp [joinS]

theorem BU.step {fill : List UInt8} {em : Int} {segs : List (List UInt8)} {s : List UInt8} {k : Nat} {xs : List UInt8} (h : BU fill em segs k xs) (hk : 0 < k) (hs : segs[k]? = some s) : BU fill em segs (k + 1) (xs ++ [47] ++ pieceOf fill em k s) := by
  unfold BU at *
  rw [h, join_take (k := k) (p := pieceOf fill em k s) (by rw [pieces_get, hs]; simp)]
  rw [if_neg (by omega)]
  simp

set_option maxHeartbeats 2000000 in
set_option maxRecDepth 100000 in
theorem inst_any (ad : Option Addr) (n c : Nat) (ss : List ByteArray) (fill : ByteArray) (em : Int) (w : World) (hn : n ≤ 65536) (hss : ss.length = n) (hsz : ∀ s ∈ ss, s.size ≤ 1048576) (hf : fill.size ≤ 1048576) (hC : Cells w ad n ss) :
    Calls Try.prog 15 #[.slice ad n c, .string fill, .int .i64 em] w fun e w' => ∃ B : ByteArray, e = .returned (.string B) ∧ B.size ≤ 137438953472 ∧ L B = inst (L fill) em (segsOf ss) ∧ Below w.heap.size w w' := by
  obtain ⟨i0, hi, hz0, hz1, hz2⟩ := info_parts info5
  have HC : Hid (Cells w ad n ss) := hC
  have HSS : Hid (ss.length = n) := hss
  have HSZ : Hid (∀ s ∈ ss, s.size ≤ 1048576) := hsz
  clear hC hss hsz
  go_enter Try.func15, Try.ntmps15
  go_wp2_with (first
    | (at_make; refine wpList_make_own _ rfl _ _ 43 rfl w.heap.size 5 i0 (.int .u8 0) 1 Try.underlying43 hi hz0 hz1 _ _ _ 16 rfl rfl rfl (by rw [hz2]; omega) (by unfold maxLen; omega) (Nat.le_refl _) ?_; intro w1 hown1 hgrow1)
    | (at_builtin; refine wpList_append_own _ rfl (.tmp 10) (.tmp 11) 43 rfl w.heap.size 5 i0 (.int .u8 0) 1 1 Try.underlying43 hi hz0 hz1 hz2 rfl (by decide) _ _ _ rfl (hown1.alloc _) ⟨w1.heap.size, 0, none⟩ 1 1 [.int .u8 47] rfl rfl (cell_one_new _ _ _) (by simp [Value.oneCell']) (by unfold maxLen; omega) (by omega) (by have := hgrow1.size; simp; omega) ?_; intro v2 w2 hown2 hgrow2 hnil2))
  have hb1 : Below w.heap.size w w1 := (Below.refl _ w).grown hgrow1 (Nat.le_refl _) (by simp)
  have hs1 := hb1.size
  have hb2 : Below w.heap.size w w2 := (hb1.alloc (by omega) _).grown hgrow2 (by simp; omega) (fun j hj => (hown1.lt j hj).1)
  have hstart : w2.ownsRow w.heap.size 5 1 v2 1 (bcells [47]) := by simpa [bcells] using hown2
  clear hown1 hgrow1 hown2 hgrow2 hnil2 hb1 hs1
  go_loopw [7, 8] (fun v i wr => ∃ (k : Nat) (xs : List UInt8), i = .int .i64 k ∧ k ≤ n ∧ BU (L fill) em (segsOf ss) k xs ∧ xs.length ≤ 1 + k * 1048577 ∧ 0 < xs.length ∧ wr.ownsRow w.heap.size 5 1 v xs.length (bcells xs) ∧ Below w.heap.size w wr) (fun _ i _ => n - (intOf i).toNat)
  case atStart => exact ⟨0, [47], rfl, Nat.zero_le _, by simp [BU, joinS], by simp, by simp, hstart, hb2⟩
  case round =>
    obtain ⟨k, xs, rfl, hk, hBU, hxl, hx0, hown, hbl⟩ := hrel
    clear hb2 hstart
    have HBU : Hid (BU (L fill) em (segsOf ss) k xs) := hBU
    clear hBU
    have hsr := hbl.size
    by_cases hlt : k < n
    · obtain ⟨g, had, hg, hcg⟩ := HC.out k hlt
      obtain ⟨s, hsd⟩ : ∃ s, s = ss.getD k ByteArray.empty := ⟨_, rfl⟩
      have hkl : k < ss.length := by rw [HSS.out]; exact hlt
      have HSG : Hid ((segsOf ss)[k]? = some (L s)) := by rw [hsd]; simp [Hid, segsOf, List.getD, List.getElem?_eq_getElem hkl]
      have hss : s.size ≤ 1048576 := by
        rw [hsd, List.getD_eq_getElem?_getD, List.getElem?_eq_getElem hkl]
        exact HSZ.out _ (List.getElem_mem hkl)
      rw [← hsd] at hcg
      have hc0 : w.cell? ⟨g, k, none⟩ = some (.string s) := hcg
      have hcr : wr.cell? ⟨g, k, none⟩ = some (.string s) := (hbl.cell (by exact hg)).trans hcg
      clear hsd hkl hcg
      subst had
      by_cases hstar : L s = [42]
      · have hst : (s.toList == [42]) = true := by rw [L_toList, hstar]; rfl
        by_cases hem : (k : Int) = em
        · have HP : Hid (pieceOf (L fill) em k (L s) = []) := by unfold pieceOf; rw [Hid, if_pos hstar, if_pos hem]
          have hne : ((k : Int) != em) = false := by simpa using hem
          clear hstar hem
          by_cases hk0 : k = 0
          · subst hk0
            go_wp2
            have HB : Hid (BU (L fill) em (segsOf ss) (0 + 1) (xs ++ [])) := by
              have h := HBU.out.step0 HSG.out
              rw [HP.out] at h
              exact h
            have hle : (xs ++ []).length ≤ 1 + (0 + 1) * 1048577 := by
              have e1 : (xs ++ []).length = xs.length + 0 := by simp only [List.length_append, List.length_cons, List.length_nil, L_size] <;> omega
              rw [e1]; omega
            have hpo : 0 < (xs ++ []).length := by simp only [List.length_append, List.length_cons, List.length_nil] <;> omega
            go_roundw
            case rel => exact ⟨0 + 1, _, by go_num, by omega, HB.out, hle, hpo, by simpa using hown, hbl⟩
            case measure => simp [intOf]; omega
          · have hk0 : 0 < k := by omega
            go_wp2_with (first
              | (at_builtin; refine wpList_append_own _ rfl (.tmp 21) (.tmp 22) 43 rfl w.heap.size 5 i0 (.int .u8 0) 1 1 Try.underlying43 hi hz0 hz1 hz2 rfl (by decide) _ _ _ rfl (hown.alloc _) ⟨wr.heap.size, 0, none⟩ 1 1 [.int .u8 47] rfl rfl (cell_one_new _ _ _) (by simp [Value.oneCell']) (by unfold maxLen; omega) (by omega) (by simp; omega) ?_; intro v3 w3 hown3 hgrow3 hnil3; have hb3 : Below w.heap.size w w3 := (hbl.alloc (by omega) _).grown hgrow3 (by simp; omega) (fun j hj => (hown.lt j hj).1); have hc3 : w3.cell? ⟨g, k, none⟩ = some (.string s) := (hb3.cell (by exact hg)).trans hc0; have hs3 := hb3.size))
            have HB : Hid (BU (L fill) em (segsOf ss) (k + 1) (xs ++ [47] ++ [])) := by
              have h := HBU.out.step hk0 HSG.out
              rw [HP.out] at h
              exact h
            have R : w3.ownsRow w.heap.size 5 1 v3 (xs ++ [47] ++ []).length (bcells (xs ++ [47] ++ [])) := by
              simpa [bcells, List.map_append] using hown3
            have hle : (xs ++ [47] ++ []).length ≤ 1 + (k + 1) * 1048577 := by
              have e1 : (xs ++ [47] ++ []).length = xs.length + 1 + 0 := by simp only [List.length_append, List.length_cons, List.length_nil, L_size] <;> omega
              rw [e1]; omega
            have hpo : 0 < (xs ++ [47] ++ []).length := by simp only [List.length_append, List.length_cons, List.length_nil] <;> omega
            go_roundw
            case rel => exact ⟨k + 1, _, by go_num, by omega, HB.out, hle, hpo, R, hb3⟩
            case measure => simp [intOf]; omega
        · have HP : Hid (pieceOf (L fill) em k (L s) = L fill) := by unfold pieceOf; rw [Hid, if_pos hstar, if_neg hem]
          have hne : ((k : Int) != em) = true := by simpa using hem
          clear hstar hem
          by_cases hk0 : k = 0
          · subst hk0
            go_wp2_with (first
              | (at_builtin; refine Lib.wpList_append_own_string _ rfl (.tmp 32) (.tmp 33) 43 9 rfl w.heap.size 5 i0 Try.underlying43 Try.underlying9 hi hz0 hz1 hz2 _ _ _ rfl hown fill rfl (by unfold maxLen; omega) (by omega) (by omega) ?_; intro v4 w4 hown4 hgrow4 hnil4))
            have hb4 : Below w.heap.size w w4 := hbl.grown hgrow4 (by omega) (fun j hj => (hown.lt j hj).1)
            have HB : Hid (BU (L fill) em (segsOf ss) (0 + 1) (xs ++ L fill)) := by
              have h := HBU.out.step0 HSG.out
              rw [HP.out] at h
              exact h
            have R : w4.ownsRow w.heap.size 5 1 v4 (xs ++ L fill).length (bcells (xs ++ L fill)) := by
              have h := hown4
              rw [bcells_str] at h
              have e1 : (xs ++ L fill).length = xs.length + fill.size := by simp only [List.length_append, List.length_cons, List.length_nil, L_size] <;> omega
              have e2 : bcells (xs ++ L fill) = bcells xs ++ bcells (L fill) := by simp [bcells]
              rw [e1, e2]
              exact h
            have hle : (xs ++ L fill).length ≤ 1 + (0 + 1) * 1048577 := by
              have e1 : (xs ++ L fill).length = xs.length + fill.size := by simp only [List.length_append, List.length_cons, List.length_nil, L_size] <;> omega
              rw [e1]; omega
            have hpo : 0 < (xs ++ L fill).length := by simp only [List.length_append, List.length_cons, List.length_nil] <;> omega
            go_roundw
            case rel => exact ⟨0 + 1, _, by go_num, by omega, HB.out, hle, hpo, R, hb4⟩
            case measure => simp [intOf]; omega
          · have hk0 : 0 < k := by omega
            go_wp2_with (first
              | (at_builtin; refine wpList_append_own _ rfl (.tmp 21) (.tmp 22) 43 rfl w.heap.size 5 i0 (.int .u8 0) 1 1 Try.underlying43 hi hz0 hz1 hz2 rfl (by decide) _ _ _ rfl (hown.alloc _) ⟨wr.heap.size, 0, none⟩ 1 1 [.int .u8 47] rfl rfl (cell_one_new _ _ _) (by simp [Value.oneCell']) (by unfold maxLen; omega) (by omega) (by simp; omega) ?_; intro v3 w3 hown3 hgrow3 hnil3; have hb3 : Below w.heap.size w w3 := (hbl.alloc (by omega) _).grown hgrow3 (by simp; omega) (fun j hj => (hown.lt j hj).1); have hc3 : w3.cell? ⟨g, k, none⟩ = some (.string s) := (hb3.cell (by exact hg)).trans hc0; have hs3 := hb3.size)
              | (at_builtin; refine Lib.wpList_append_own_string _ rfl (.tmp 32) (.tmp 33) 43 9 rfl w.heap.size 5 i0 Try.underlying43 Try.underlying9 hi hz0 hz1 hz2 _ _ _ rfl hown3 fill rfl (by unfold maxLen; omega) (by omega) (by omega) ?_; intro v4 w4 hown4 hgrow4 hnil4))
            have hb4 : Below w.heap.size w w4 := hb3.grown hgrow4 (by omega) (fun j hj => (hown3.lt j hj).1)
            have HB : Hid (BU (L fill) em (segsOf ss) (k + 1) (xs ++ [47] ++ L fill)) := by
              have h := HBU.out.step hk0 HSG.out
              rw [HP.out] at h
              exact h
            have R : w4.ownsRow w.heap.size 5 1 v4 (xs ++ [47] ++ L fill).length (bcells (xs ++ [47] ++ L fill)) := by
              have h := hown4
              rw [bcells_str] at h
              have e1 : (xs ++ [47] ++ L fill).length = xs.length + 1 + fill.size := by simp only [List.length_append, List.length_cons, List.length_nil, L_size] <;> omega
              have e2 : bcells (xs ++ [47] ++ L fill) = bcells xs ++ [Value.int .u8 47] ++ bcells (L fill) := by simp [bcells]
              rw [e1, e2]
              exact h
            have hle : (xs ++ [47] ++ L fill).length ≤ 1 + (k + 1) * 1048577 := by
              have e1 : (xs ++ [47] ++ L fill).length = xs.length + 1 + fill.size := by simp only [List.length_append, List.length_cons, List.length_nil, L_size] <;> omega
              rw [e1]; omega
            have hpo : 0 < (xs ++ [47] ++ L fill).length := by simp only [List.length_append, List.length_cons, List.length_nil] <;> omega
            go_roundw
            case rel => exact ⟨k + 1, _, by go_num, by omega, HB.out, hle, hpo, R, hb4⟩
            case measure => simp [intOf]; omega
      · have hst : (s.toList == [42]) = false := by rw [L_toList]; simpa using hstar
        have HP : Hid (pieceOf (L fill) em k (L s) = L s) := by unfold pieceOf; rw [Hid, if_neg hstar]
        clear hstar
        by_cases hk0 : k = 0
        · subst hk0
          go_wp2_with (first
            | (at_builtin; refine Lib.wpList_append_own_string _ rfl (.tmp 35) (.tmp 39) 43 9 rfl w.heap.size 5 i0 Try.underlying43 Try.underlying9 hi hz0 hz1 hz2 _ _ _ rfl hown s rfl (by unfold maxLen; omega) (by omega) (by omega) ?_; intro v4 w4 hown4 hgrow4 hnil4))
          have hb4 : Below w.heap.size w w4 := hbl.grown hgrow4 (by omega) (fun j hj => (hown.lt j hj).1)
          have HB : Hid (BU (L fill) em (segsOf ss) (0 + 1) (xs ++ L s)) := by
            have h := HBU.out.step0 HSG.out
            rw [HP.out] at h
            exact h
          have R : w4.ownsRow w.heap.size 5 1 v4 (xs ++ L s).length (bcells (xs ++ L s)) := by
            have h := hown4
            rw [bcells_str] at h
            have e1 : (xs ++ L s).length = xs.length + s.size := by simp only [List.length_append, List.length_cons, List.length_nil, L_size] <;> omega
            have e2 : bcells (xs ++ L s) = bcells xs ++ bcells (L s) := by simp [bcells]
            rw [e1, e2]
            exact h
          have hle : (xs ++ L s).length ≤ 1 + (0 + 1) * 1048577 := by
            have e1 : (xs ++ L s).length = xs.length + s.size := by simp only [List.length_append, List.length_cons, List.length_nil, L_size] <;> omega
            rw [e1]; omega
          have hpo : 0 < (xs ++ L s).length := by simp only [List.length_append, List.length_cons, List.length_nil] <;> omega
          go_roundw
          case rel => exact ⟨0 + 1, _, by go_num, by omega, HB.out, hle, hpo, R, hb4⟩
          case measure => simp [intOf]; omega
        · have hk0 : 0 < k := by omega
          go_wp2_with (first
            | (at_builtin; refine wpList_append_own _ rfl (.tmp 21) (.tmp 22) 43 rfl w.heap.size 5 i0 (.int .u8 0) 1 1 Try.underlying43 hi hz0 hz1 hz2 rfl (by decide) _ _ _ rfl (hown.alloc _) ⟨wr.heap.size, 0, none⟩ 1 1 [.int .u8 47] rfl rfl (cell_one_new _ _ _) (by simp [Value.oneCell']) (by unfold maxLen; omega) (by omega) (by simp; omega) ?_; intro v3 w3 hown3 hgrow3 hnil3; have hb3 : Below w.heap.size w w3 := (hbl.alloc (by omega) _).grown hgrow3 (by simp; omega) (fun j hj => (hown.lt j hj).1); have hc3 : w3.cell? ⟨g, k, none⟩ = some (.string s) := (hb3.cell (by exact hg)).trans hc0; have hs3 := hb3.size)
            | (at_builtin; refine Lib.wpList_append_own_string _ rfl (.tmp 35) (.tmp 39) 43 9 rfl w.heap.size 5 i0 Try.underlying43 Try.underlying9 hi hz0 hz1 hz2 _ _ _ rfl hown3 s rfl (by unfold maxLen; omega) (by omega) (by omega) ?_; intro v4 w4 hown4 hgrow4 hnil4))
          have hb4 : Below w.heap.size w w4 := hb3.grown hgrow4 (by omega) (fun j hj => (hown3.lt j hj).1)
          have HB : Hid (BU (L fill) em (segsOf ss) (k + 1) (xs ++ [47] ++ L s)) := by
            have h := HBU.out.step hk0 HSG.out
            rw [HP.out] at h
            exact h
          have R : w4.ownsRow w.heap.size 5 1 v4 (xs ++ [47] ++ L s).length (bcells (xs ++ [47] ++ L s)) := by
            have h := hown4
            rw [bcells_str] at h
            have e1 : (xs ++ [47] ++ L s).length = xs.length + 1 + s.size := by simp only [List.length_append, List.length_cons, List.length_nil, L_size] <;> omega
            have e2 : bcells (xs ++ [47] ++ L s) = bcells xs ++ [Value.int .u8 47] ++ bcells (L s) := by simp [bcells]
            rw [e1, e2]
            exact h
          have hle : (xs ++ [47] ++ L s).length ≤ 1 + (k + 1) * 1048577 := by
            have e1 : (xs ++ [47] ++ L s).length = xs.length + 1 + s.size := by simp only [List.length_append, List.length_cons, List.length_nil, L_size] <;> omega
            rw [e1]; omega
          have hpo : 0 < (xs ++ [47] ++ L s).length := by simp only [List.length_append, List.length_cons, List.length_nil] <;> omega
          go_roundw
          case rel => exact ⟨k + 1, _, by go_num, by omega, HB.out, hle, hpo, R, hb4⟩
          case measure => simp [intOf]; omega
    · obtain ⟨g, cap, hv⟩ := owns_form hown hx0
      subst hv
      have hcells : ∀ i, i < xs.length → wr.cell? ⟨g, 0 + i, none⟩ = some (.int .u8 ((xs.map fun b => (b.toNat : Int)).getD i 0)) := fun i hi => by
        rw [Nat.zero_add, hown.cellAt i (by omega)]
        simp [bcells, List.getD, List.getElem?_eq_getElem hi]
      have hconv := run_convert_bytes_arg (P := Try.prog) wr 43 5 Try.underlying43 Try.underlying5 g 0 xs.length cap (xs.map fun b => (b.toNat : Int)) (by simp) hcells 9 Try.underlying9
      have HL : Hid (L (strOfNums (xs.map fun b => (b.toNat : Int))) = inst (L fill) em (segsOf ss)) := by
        rw [Hid, strOf_L, HBU.out, inst, List.take_of_length_le (by rw [pieces_length, segsOf, List.length_map, HSS.out]; omega)]
      have HSB : Hid ((strOfNums (xs.map fun b => (b.toNat : Int))).size ≤ 137438953472) := by
        rw [Hid, ← L_size, strOf_L]; omega
      obtain ⟨B, hB⟩ : ∃ B, B = strOfNums (xs.map fun b => (b.toNat : Int)) := ⟨_, rfl⟩
      rw [← hB] at HL HSB hconv
      clear hcells hB
      go_wp2
      go_ret
      exact ⟨B, rfl, HSB.out, HL.out, hbl⟩

end Go.Proofs.Qxb6605283a.Walks
