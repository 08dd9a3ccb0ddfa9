/-
  SEAT b6600554a: THREE CLOSED FACTS ON THE DUMP's HEAD ROW. The head names several roots: reckoned by 'kernel_rfl' outright, 'mayEnter', 'liftsFinal' and 'make' each outgrow the memory lid. Here the head's first signs are parted from the rest, which stays a letter.
-/
import Derived.Test.Qxb6600554aRows
import Derived.JoinedOf
namespace Go.Proofs.Qxb6600554a.Head
open Go Go.Proofs

def headChars : List Char := ['h', 'a', 'r', 'n', 'e', 's', 's', ' ', 'd', '5', 'd', 'a', '9', '6', 'f', '6', '7', '2', '3', '0', 'e', 'f', 'b', '1', '2', 'c', 'a', '4', '8', '6', 'd', 'f', '3', '1', 'a', '0', '6', 'd', '8', '8', 'd', '3', '6', '8', 'c', '6', '5', '3', '2', 'd', '3', '7', 'c', '7', '9', '0', '4', '5', '1', 'b', 'e', '3', '5', 'b', 'd', '0', 'b', '9', 'a', '7', '4', '8', ' ', 'c', 'u', 't', ' ']

set_option maxRecDepth 100000 in
theorem headSplit : ∃ X, Try.prog.initOrder.toList = headChars ++ X := by
  rw [show Try.prog.initOrder = String.ofList _ from rfl, String.toList_ofList]
  exact ⟨_, rfl⟩
theorem hd (X : List Char) : behindMainWord (wordsSigns (headChars ++ X)) = ['c', 'u', 't'] :: wordsSigns X := by kernel_rfl
theorem strip (R : List (List Char)) : stripLifts liftWords (['c', 'u', 't'] :: R) = ([], ['c', 'u', 't'] :: R) := by kernel_rfl
theorem e1 : (['c', 'u', 't'] == "gc".toList) = false := by kernel_rfl
theorem e2 : (['c', 'u', 't'] == "spec".toList) = false := by kernel_rfl
theorem e3 : (['c', 'u', 't'] == "cut".toList) = true := by kernel_rfl
theorem e4 : (['c', 'u', 't'] == "carried".toList) = false := by kernel_rfl
theorem ll : Try.prog.laysLater = false := by kernel_rfl
theorem br : Try.prog.bearsReflect = false := by kernel_rfl
theorem df : Try.prog.doorFits [] = true := by kernel_rfl

theorem mayEnter_of {P : Program} {l : List Char} {R : List (List Char)} (h : P.initOrder.toList = l) (h2 : behindMainWord (wordsSigns l) = ['c', 'u', 't'] :: R) (hl : P.laysLater = false) (hb : P.bearsReflect = false) (hf : P.doorFits [] = true) : P.mayEnter = true := by
  unfold Program.mayEnter
  rw [h, h2]
  simp only [strip, e1, e2, e4, hl, hb, hf, Bool.false_or, Bool.false_and, List.head?_cons]
  simp
theorem make_of {P : Program} {l : List Char} {R : List (List Char)} (h : P.initOrder.toList = l) (h2 : behindMainWord (wordsSigns l) = ['c', 'u', 't'] :: R) : P.make = some .cut := by
  unfold Program.make
  rw [h, h2]
  simp only [e1, e2, e3, Bool.false_or, Bool.true_or, if_true]
  rfl
theorem lifts_of {P : Program} {l : List Char} {R : List (List Char)} (h : P.initOrder.toList = l) (h2 : behindMainWord (wordsSigns l) = ['c', 'u', 't'] :: R) : P.liftsFinal = false := by
  unfold Program.liftsFinal Program.headLifts
  rw [h, h2]
  simp only [strip]
  kernel_rfl

theorem mayEnter_ok : Try.prog.mayEnter = true := by
  obtain ⟨X, hX⟩ := headSplit
  exact mayEnter_of hX (hd X) ll br df
theorem make_ok : Try.prog.make = some .cut := by
  obtain ⟨X, hX⟩ := headSplit
  exact make_of hX (hd X)
theorem lifts_ok : Try.prog.liftsFinal = false := by
  obtain ⟨X, hX⟩ := headSplit
  exact lifts_of hX (hd X)

theorem both {a b : Bool} (ha : a = true) (hb : b = true) : (a && b) = true := by rw [ha, hb]; rfl

end Go.Proofs.Qxb6600554a.Head
