/-
  No cell of these rows narrows 'for every input' (looked for: loops, veiled, ifaces, maps, wideKeys, modest, calm, conditions, laid).
  DERIVED. THE GIVEN ROWS OF THIS SEAT. 4 by the template 'for every input the law returns true; each argument reads behind the call as it read before'; 0 by the template 'total and deterministic' (their statements: Qxb6000095aTotals.lean).
  GIVEN WITH THE SEED: the statements are not yours to turn. If you find one false, say at which input.
  Laid BY PROGRAM, IN A SANDBOX (cutbox-rows.mjs): the forced cells as the released guide's own fill.sh prints them over the translation 533fff2247dcc61f… (all of the seat's roots in one cut). By AI agents, Wed Nov 11 2026. No macro, syntax, notation, axiom, sorry.
-/
import Derived.Test.Qxb6000095aChecked
import GoSem.Claim
import GoSem.ClaimJoined
import GoSem.ClaimMapViews
import Derived.JoinedTies
import Derived.KernelRfl
namespace Go.Proofs.Qxb6000095a
/- THE CELL 'sum', in the pinned program and in every row, IS THE sha256 OF THE DUMP (.gsa) THAT Qxb6000095aProg.lean LOADS. Nothing in Lean hashes anything: it is a label: what it is worth is what the hold of that sum in a sandbox is worth. -/
noncomputable def Try.pinned : Pinned := { name := "qxb6000095a", sum := "533fff2247dcc61f3152fec585fd4d8310abcdedf31314022c41ad8cd86603b3", checked := Try.checked }
namespace Rows
def none {H : Type} : Left H := { results := [], args := [] }

/-- 'zzlaws_grades_b1.FnOfAnswersTheFirstRowOfParticipantAndYear': WHATEVER THE INPUT: true; the input reads as it did. -/
def fnOfAnswersTheFirstRowOfParticipantAndYearSpec : ChangeSpec := { name := "fnOfAnswersTheFirstRowOfParticipantAndYear", fn := fun _ => fun
  | [d1, d2, d3] => { results := [.lit (.bool true)], args := [d1, d2, d3] }
  | _ => none }
def fnOfAnswersTheFirstRowOfParticipantAndYearRow : OpenClaim := { program := "qxb6000095a", sum := "533fff2247dcc61f3152fec585fd4d8310abcdedf31314022c41ad8cd86603b3", func := "example.com/vestwright/vestwright/zzlaws_grades_b1.FnOfAnswersTheFirstRowOfParticipantAndYear", spec := "fnOfAnswersTheFirstRowOfParticipantAndYear", apart := false }
def FnOfAnswersTheFirstRowOfParticipantAndYearSaid : Prop := fnOfAnswersTheFirstRowOfParticipantAndYearRow.holds Try.pinned (OpenSpec.ofChange fnOfAnswersTheFirstRowOfParticipantAndYearSpec)

/-- ITS FALSE NEIGHBOUR: 'it returns false'. Refute it at one input. -/
def fnOfAnswersTheFirstRowOfParticipantAndYearWrong : ChangeSpec := { name := "fnOfAnswersTheFirstRowOfParticipantAndYear", fn := fun _ => fun
  | [d1, d2, d3] => { results := [.lit (.bool false)], args := [d1, d2, d3] }
  | _ => none }
def FnOfAnswersTheFirstRowOfParticipantAndYearWrongFalsely : Prop := fnOfAnswersTheFirstRowOfParticipantAndYearRow.holds Try.pinned (OpenSpec.ofChange fnOfAnswersTheFirstRowOfParticipantAndYearWrong)

/-- 'zzlaws_grades_b1.FnAddHoldsEveryMarkInOrderInFullChunks': WHATEVER THE INPUT: true; the input reads as it did. -/
def fnAddHoldsEveryMarkInOrderInFullChunksSpec : ChangeSpec := { name := "fnAddHoldsEveryMarkInOrderInFullChunks", fn := fun _ => fun
  | [d] => { results := [.lit (.bool true)], args := [d] }
  | _ => none }
def fnAddHoldsEveryMarkInOrderInFullChunksRow : OpenClaim := { program := "qxb6000095a", sum := "533fff2247dcc61f3152fec585fd4d8310abcdedf31314022c41ad8cd86603b3", func := "example.com/vestwright/vestwright/zzlaws_grades_b1.FnAddHoldsEveryMarkInOrderInFullChunks", spec := "fnAddHoldsEveryMarkInOrderInFullChunks", apart := false }
def FnAddHoldsEveryMarkInOrderInFullChunksSaid : Prop := fnAddHoldsEveryMarkInOrderInFullChunksRow.holds Try.pinned (OpenSpec.ofChange fnAddHoldsEveryMarkInOrderInFullChunksSpec)

/-- ITS FALSE NEIGHBOUR: 'it returns false'. Refute it at one input. -/
def fnAddHoldsEveryMarkInOrderInFullChunksWrong : ChangeSpec := { name := "fnAddHoldsEveryMarkInOrderInFullChunks", fn := fun _ => fun
  | [d] => { results := [.lit (.bool false)], args := [d] }
  | _ => none }
def FnAddHoldsEveryMarkInOrderInFullChunksWrongFalsely : Prop := fnAddHoldsEveryMarkInOrderInFullChunksRow.holds Try.pinned (OpenSpec.ofChange fnAddHoldsEveryMarkInOrderInFullChunksWrong)

/-- 'zzlaws_grades_b1.FnAddNeverMovesAMarkAlreadyHeld': WHATEVER THE INPUT: true; the input reads as it did. -/
def fnAddNeverMovesAMarkAlreadyHeldSpec : ChangeSpec := { name := "fnAddNeverMovesAMarkAlreadyHeld", fn := fun _ => fun
  | [d] => { results := [.lit (.bool true)], args := [d] }
  | _ => none }
def fnAddNeverMovesAMarkAlreadyHeldRow : OpenClaim := { program := "qxb6000095a", sum := "533fff2247dcc61f3152fec585fd4d8310abcdedf31314022c41ad8cd86603b3", func := "example.com/vestwright/vestwright/zzlaws_grades_b1.FnAddNeverMovesAMarkAlreadyHeld", spec := "fnAddNeverMovesAMarkAlreadyHeld", apart := false }
def FnAddNeverMovesAMarkAlreadyHeldSaid : Prop := fnAddNeverMovesAMarkAlreadyHeldRow.holds Try.pinned (OpenSpec.ofChange fnAddNeverMovesAMarkAlreadyHeldSpec)

/-- ITS FALSE NEIGHBOUR: 'it returns false'. Refute it at one input. -/
def fnAddNeverMovesAMarkAlreadyHeldWrong : ChangeSpec := { name := "fnAddNeverMovesAMarkAlreadyHeld", fn := fun _ => fun
  | [d] => { results := [.lit (.bool false)], args := [d] }
  | _ => none }
def FnAddNeverMovesAMarkAlreadyHeldWrongFalsely : Prop := fnAddNeverMovesAMarkAlreadyHeldRow.holds Try.pinned (OpenSpec.ofChange fnAddNeverMovesAMarkAlreadyHeldWrong)

/-- 'zzlaws_grades_b1.FnInternNumbersTextsByFirstAppearance': WHATEVER THE INPUT: true; the input reads as it did. -/
def fnInternNumbersTextsByFirstAppearanceSpec : ChangeSpec := { name := "fnInternNumbersTextsByFirstAppearance", fn := fun _ => fun
  | [d] => { results := [.lit (.bool true)], args := [d] }
  | _ => none }
def fnInternNumbersTextsByFirstAppearanceRow : OpenClaim := { program := "qxb6000095a", sum := "533fff2247dcc61f3152fec585fd4d8310abcdedf31314022c41ad8cd86603b3", func := "example.com/vestwright/vestwright/zzlaws_grades_b1.FnInternNumbersTextsByFirstAppearance", spec := "fnInternNumbersTextsByFirstAppearance", apart := false }
def FnInternNumbersTextsByFirstAppearanceSaid : Prop := fnInternNumbersTextsByFirstAppearanceRow.holds Try.pinned (OpenSpec.ofChange fnInternNumbersTextsByFirstAppearanceSpec)

/-- ITS FALSE NEIGHBOUR: 'it returns false'. Refute it at one input. -/
def fnInternNumbersTextsByFirstAppearanceWrong : ChangeSpec := { name := "fnInternNumbersTextsByFirstAppearance", fn := fun _ => fun
  | [d] => { results := [.lit (.bool false)], args := [d] }
  | _ => none }
def FnInternNumbersTextsByFirstAppearanceWrongFalsely : Prop := fnInternNumbersTextsByFirstAppearanceRow.holds Try.pinned (OpenSpec.ofChange fnInternNumbersTextsByFirstAppearanceWrong)

end Rows
end Go.Proofs.Qxb6000095a
