import Derived.Test.Qxb6000182aRows
import Derived.WalkKit
import Derived.ProofKit
/-! The closed facts on the program that every row asks, each by itself: all in one they go over the memory lid. -/
namespace Go.Proofs.Qxb6000182a
open Go.ChangeShapes Go.WideShapes Go.ChangeAt Go.RowKit
theorem both {a b : Bool} (h : a = true) (h' : b = true) : (a && b) = true := by rw [h, h']; rfl
theorem own : ownKnob Try.prog.godebug = none := by kernel_rfl
theorem fact2 : laidOutB Try.prog = true := by kernel_rfl
theorem fact3 : mapsRowed Try.prog = true := by kernel_rfl
theorem fact7 : (Try.prog.stops == []) = true := by kernel_rfl
theorem fact9 : (Try.prog.stopKnobs == []) = true := by kernel_rfl
theorem fact23 : (Rows.fnLongUvarintAtMatchesHornerModelRow.plainKeys == Try.prog.plainKeys) = true := by kernel_rfl
theorem fact25 : Try.prog.stopsHeard = true := by kernel_rfl
theorem fact26 : Try.prog.mayEnter = true := by kernel_rfl
theorem fact27 : (Rows.fnLongUvarintAtMatchesHornerModelRow.lifted == Try.prog.liftsFinal) = true := by kernel_rfl
theorem fact28 : (Try.prog.make == some Rows.fnLongUvarintAtMatchesHornerModelRow.make) = true := by kernel_rfl
end Go.Proofs.Qxb6000182a
