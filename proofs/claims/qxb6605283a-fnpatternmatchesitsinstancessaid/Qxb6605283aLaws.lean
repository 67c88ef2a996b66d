/-
  LAWS of this seat's own, over any program: a whole copy into a row that the call has just made; small words on rows that the call owns.
-/
import Derived.WalkKit
import Derived.Laws.CopyOwn
import Derived.Below
namespace Go.Proofs.Qxb6605283a.Laws
open Go.RowKit

theorem grown_of_below {w w' : World} (h : Below w.heap.size w w') : w.grownBy w' none := ⟨h.os, h.tape, h.output, h.size, fun k hk _ => h.block k hk⟩

/-- A row that is owned stays owned behind a call that turns nothing old. -/
theorem owns_below {w w' : World} {base : Nat} {e : TypeId} {size : Nat} {v : Value} {n : Nat} {xs : List Value} (h : w.ownsRow base e size v n xs) (hb : Below w.heap.size w w') : w'.ownsRow base e size v n xs :=
  h.kept (grown_of_below hb) (by cases hv : v.ownBlock <;> simp)

/-- 'copy(zzc, data)', zzc a row of n cells that the call has just made, data of n cells: zzc holds what data holds. -/
theorem wpList_copy_full {P : Program} (w : World) {ops : Array Oper} {rest : List Oper} {o : Oper} {a : Act} {Q : Exit → Act → World → Prop} (hgd : o.guard = none) (d s : Operand) (dT sT : TypeId)
    (ho : o.op = .call { callee := .builtin .copy, args := #[d, s], argTypes := #[dT, sT] }) (elem : TypeId) (hu : P.underlying dT = some (.slice elem)) (hsz : (P.info? elem).map (·.size) = some 1)
    (base g n c : Nat) (ad : Addr) (hd : a.eval d = .slice (some ⟨g, 0, none⟩) n n) (hs : a.eval s = .slice (some ad) n c) (xs : List Value) (hown : w.ownsRow base elem 1 (.slice (some ⟨g, 0, none⟩) n n) n xs)
    (news : List Value) (hn : news.length = n) (hsrc : ∀ j v, news[j]? = some v → w.cell? (ad.add j) = some v) (h1 : ∀ v ∈ news, v.oneCell' = true)
    (h : ∀ w', w'.ownsRow base elem 1 (.slice (some ⟨g, 0, none⟩) n n) n news → w.grownBy w' (some g) → wpList P ops Q rest (a.put o.dst (goInt n)) w') : wpList P ops Q (o :: rest) a w := by
  have hown0 := hown
  rcases hown.2 with ⟨h', _⟩ | ⟨g', cap', cur, h', hb, hg, hnc, hcm, hcs, htake⟩
  · simp at h'
  · simp only [Value.slice.injEq, Option.some.injEq, Addr.mk.injEq, and_true, true_and] at h'
    obtain ⟨rfl, rfl⟩ := h'
    by_cases h0 : n = 0
    · subst h0
      obtain rfl : news = [] := List.eq_nil_of_length_eq_zero hn
      refine wpList_copy_nothing hgd d s dT sT ho elem hu hsz _ _ _ _ _ _ hd hs (by simp) ?_
      have hx : xs = [] := List.eq_nil_of_length_eq_zero (by simpa using hown.1)
      subst hx
      exact h w hown (World.grownBy.refl _ _)
    · refine wpList_copy_own hgd d s dT sT ho elem hu hsz g 0 n n ad n c hd hs cur elem hg news (by simpa using hn) hsrc (by simp; omega) h1 ?_
      rw [hn]
      refine h _ ⟨by simpa using hn, .inr ⟨g, n, _, rfl, hb, setRow_heap w g _ _ elem _ hg, Nat.le_refl _, hcm, ?_, ?_⟩⟩ ⟨rfl, rfl, rfl, by simp [World.setRow], fun k hk hne => setRow_other w g k _ (fun e => hne (by rw [e]))⟩
      · simp; omega
      · simp only [List.take_zero, List.nil_append]
        rw [List.take_append_of_le_length (by omega)]
        exact List.take_of_length_le (by omega)

end Go.Proofs.Qxb6605283a.Laws
