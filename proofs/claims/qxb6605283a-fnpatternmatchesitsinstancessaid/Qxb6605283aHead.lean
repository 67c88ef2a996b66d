/-
  THE CLOSED FACTS ON THE DUMP's HEAD, cheaply. The frame's one 'kernel_rfl' over all closed facts outgrows the memory lid (10 GB): the three facts that read the head's long string ('mayEnter', 'liftsFinal', 'make') are the weight when the kernel runs them over the whole program. Here they are proved over a program that is a letter, from the head's first word; the string is met by its signs' numbers.
-/
import Derived.Test.Qxb6605283aRows
import Derived.ProofKit
namespace Go.Proofs.Qxb6605283a.Head
set_option maxRecDepth 100000

/-- The dump's head, sign by sign. -/
def headNums : List Nat := [
  104, 97, 114, 110, 101, 115, 115, 32, 50, 102, 50, 56, 102, 52, 51, 55, 57, 54, 55, 52, 49, 53, 102, 56, 100, 97, 97, 102, 51, 55, 49, 101, 100, 49, 57, 54, 50, 50, 52, 97,
  101, 98, 97, 100, 98, 100, 53, 100, 54, 54, 57, 50, 49, 54, 54, 57, 49, 54, 55, 51, 57, 98, 57, 99, 101, 55, 51, 56, 57, 97, 55, 51, 32, 99, 117, 116, 32, 97, 116, 32,
  101, 120, 97, 109, 112, 108, 101, 46, 99, 111, 109, 47, 112, 111, 114, 116, 99, 117, 108, 108, 105, 115, 47, 112, 111, 114, 116, 99, 117, 108, 108, 105, 115, 47, 122, 122, 108, 97, 119, 115,
  95, 114, 111, 117, 116, 101, 95, 98, 49, 46, 70, 110, 85, 110, 104, 101, 120, 68, 105, 103, 105, 116, 84, 97, 98, 108, 101, 32, 101, 120, 97, 109, 112, 108, 101, 46, 99, 111, 109, 47,
  112, 111, 114, 116, 99, 117, 108, 108, 105, 115, 47, 112, 111, 114, 116, 99, 117, 108, 108, 105, 115, 47, 122, 122, 108, 97, 119, 115, 95, 114, 111, 117, 116, 101, 95, 98, 49, 46, 70, 110,
  85, 110, 104, 101, 120, 82, 101, 97, 100, 115, 66, 97, 99, 107, 72, 101, 120, 32, 101, 120, 97, 109, 112, 108, 101, 46, 99, 111, 109, 47, 112, 111, 114, 116, 99, 117, 108, 108, 105, 115,
  47, 112, 111, 114, 116, 99, 117, 108, 108, 105, 115, 47, 122, 122, 108, 97, 119, 115, 95, 114, 111, 117, 116, 101, 95, 98, 49, 46, 70, 110, 80, 97, 116, 116, 101, 114, 110, 77, 97, 116,
  99, 104, 66, 121, 83, 101, 103, 109, 101, 110, 116, 67, 111, 117, 110, 116, 32, 101, 120, 97, 109, 112, 108, 101, 46, 99, 111, 109, 47, 112, 111, 114, 116, 99, 117, 108, 108, 105, 115, 47,
  112, 111, 114, 116, 99, 117, 108, 108, 105, 115, 47, 122, 122, 108, 97, 119, 115, 95, 114, 111, 117, 116, 101, 95, 98, 49, 46, 70, 110, 80, 97, 116, 116, 101, 114, 110, 77, 97, 116, 99,
  104, 101, 115, 73, 116, 115, 73, 110, 115, 116, 97, 110, 99, 101, 115]

def cutWord : List Char := [Char.ofNat 99, Char.ofNat 117, Char.ofNat 116]

theorem make_of {P : Program} {rest : List (List Char)} (h : behindMainWord (wordsSigns P.initOrder.toList) = cutWord :: rest) : P.make = some .cut := by
  unfold Program.make
  rw [h]
  kernel_rfl

theorem strip_of (rest : List (List Char)) : stripLifts liftWords (cutWord :: rest) = ([], cutWord :: rest) := by kernel_rfl

theorem headLifts_of {P : Program} {rest : List (List Char)} (h : behindMainWord (wordsSigns P.initOrder.toList) = cutWord :: rest) : P.headLifts = [] := by
  unfold Program.headLifts
  rw [h, strip_of]
  kernel_rfl

theorem lifts_of {P : Program} {rest : List (List Char)} (h : behindMainWord (wordsSigns P.initOrder.toList) = cutWord :: rest) : P.liftsFinal = false := by
  unfold Program.liftsFinal
  rw [h, headLifts_of h]
  kernel_rfl

theorem mayEnter_of {P : Program} {rest : List (List Char)} (h : behindMainWord (wordsSigns P.initOrder.toList) = cutWord :: rest) (h1 : P.laysLater = false) (h2 : P.bearsReflect = false) (h3 : P.doorFits [] = true) : P.mayEnter = true := by
  unfold Program.mayEnter
  rw [h]
  simp only [strip_of, h1, h2, h3]
  kernel_rfl

theorem words_of {P : Program} (L : List Char) (hL : P.initOrder = String.ofList L) (hd : (behindMainWord (wordsSigns L)).head? = some cutWord) : ∃ rest, behindMainWord (wordsSigns P.initOrder.toList) = cutWord :: rest := by
  rw [hL, String.toList_ofList]
  cases hb : behindMainWord (wordsSigns L) with
  | nil => rw [hb] at hd; cases hd
  | cons c rest => rw [hb] at hd; simp only [List.head?_cons, Option.some.injEq] at hd; exact ⟨rest, by rw [hd]⟩

theorem head_eq : Try.pinned.checked.prog.initOrder = String.ofList (headNums.map Char.ofNat) := by kernel_rfl
theorem words_head : (behindMainWord (wordsSigns (headNums.map Char.ofNat))).head? = some cutWord := by kernel_rfl
theorem words_eq : ∃ rest, behindMainWord (wordsSigns (Try.pinned.checked.prog.initOrder.toList)) = cutWord :: rest := words_of _ head_eq words_head
theorem lays_t : Try.pinned.checked.prog.laysLater = false := by kernel_rfl
theorem refl_t : Try.pinned.checked.prog.bearsReflect = false := by kernel_rfl
theorem door_t : Try.pinned.checked.prog.doorFits [] = true := by kernel_rfl

theorem mayEnter_t : Try.pinned.checked.prog.mayEnter = true := words_eq.elim fun _ h => mayEnter_of h lays_t refl_t door_t
theorem lifts_t : Try.pinned.checked.prog.liftsFinal = false := words_eq.elim fun _ h => lifts_of h
theorem make_t : Try.pinned.checked.prog.make = some .cut := words_eq.elim fun _ h => make_of h

end Go.Proofs.Qxb6605283a.Head
