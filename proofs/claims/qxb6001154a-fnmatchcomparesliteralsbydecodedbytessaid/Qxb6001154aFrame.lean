/-
  A []string among the arguments, opened as a row of strings.
-/
import Derived.Test.Qxb6001154aStrs
import Derived.ProofKit
import Derived.OpenShut
import Derived.ShutString
import Derived.ChangeOld
import Derived.Below
import Derived.SliceStrings
namespace Go.Proofs.Qxb6001154a
open Go.ChangeShapes Go.WideShapes Go.ChangeAt Go.RowKit

theorem own : ownKnob Try.prog.godebug = none := by kernel_rfl
theorem laidOut : laidOutB Try.prog = true := by kernel_rfl
theorem cells9 : Try.prog.cellsOf 9 = 1 := by kernel_rfl

theorem open_sr {H : Type} {enc : TypeId × Value → H} {W : World} {base : Nat} {spare : Nat → Bool} {held : Bool} {fuel : Nat} {a0 : Option Addr} {len cap : Nat} {x : DataW H × List MemPlace}
    (h : DataW.trod enc Try.prog W base spare held fuel 26 (Value.slice a0 len cap).cells.toList = some x) : ∃ ss : List ByteArray, len = ss.length ∧ SR W a0 ss ∧ ss.length ≤ maxLen := by
  rcases open_strings Try.underlying26 Try.underlying9 cells9 h with ⟨hcs, _⟩ | ⟨a, l, c, ss, hcs, _, hl, hm, hz, _, hcell, _⟩
  · simp [Value.cells] at hcs
    obtain ⟨rfl, rfl, rfl⟩ := hcs
    exact ⟨[], rfl, fun j hj => absurd hj (by simp), by simp [maxLen]⟩
  · simp [Value.cells] at hcs
    obtain ⟨rfl, rfl, rfl⟩ := hcs
    have hle : len ≤ ss.length := by rw [hz]; split <;> omega
    refine ⟨ss.take len, by rw [List.length_take]; omega, fun j hj => ?_, by rw [List.length_take]; omega⟩
    rw [List.length_take] at hj
    have hj' : j < ss.length := by omega
    obtain ⟨b, off, spot⟩ := a
    have hspot : spot = none := by simpa [Addr.add] using World.cell?_spot (hcell 0 (by omega))
    subst hspot
    refine ⟨b, off, rfl, ?_⟩
    have := hcell j hj'
    rw [add_plain] at this
    rw [this, List.getElem_take, List.getD_eq_getElem?_getD, List.getElem?_eq_getElem hj']
    rfl

end Go.Proofs.Qxb6001154a
