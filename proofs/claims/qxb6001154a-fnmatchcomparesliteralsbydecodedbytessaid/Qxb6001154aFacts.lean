/-
  THREE CLOSED FACTS OF THE PROGRAM's HEAD, shared by all rows. They speak of the head's long string of roots. Read sign by sign by the kernel ('String.toList' of a long literal) each wants more than 10 GB;
  here the list of signs comes from 'String.ofList', and the word is unfolded over a program that is a variable: a second.
-/
import Derived.Test.Qxb6001154aRows
import Derived.KernelRfl
namespace Go.Proofs.Qxb6001154a
set_option maxRecDepth 100000

def mayL (P : Program) (l : List Char) : { b : Bool // P.initOrder.toList = l → P.mayEnter = b } := by
  refine ⟨?b, ?h⟩
  case h =>
    intro h
    unfold Program.mayEnter
    rw [h]
def liftL (P : Program) (l : List Char) : { b : Bool // P.initOrder.toList = l → P.liftsFinal = b } := by
  refine ⟨?b, ?h⟩
  case h =>
    intro h
    unfold Program.liftsFinal Program.headLifts
    rw [h]
def makeL (P : Program) (l : List Char) : { b : Option Make // P.initOrder.toList = l → P.make = b } := by
  refine ⟨?b, ?h⟩
  case h =>
    intro h
    unfold Program.make Program.headLifts
    rw [h]
theorem ofL {s : String} {l : List Char} (h : s = String.ofList l) : s.toList = l := by rw [h, String.toList_ofList]
theorem mayEnter_yes : Try.prog.mayEnter = true := ((mayL Try.prog _).2 (ofL rfl)).trans (by kernel_rfl)
theorem liftsFinal_no : Try.prog.liftsFinal = false := ((liftL Try.prog _).2 (ofL rfl)).trans (by kernel_rfl)
theorem make_cut : Try.prog.make = some .cut := ((makeL Try.prog _).2 (ofL rfl)).trans (by kernel_rfl)

end Go.Proofs.Qxb6001154a
