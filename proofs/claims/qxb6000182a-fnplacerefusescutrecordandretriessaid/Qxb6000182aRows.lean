/-
  No cell of these rows narrows 'for every input' (looked for: loops, veiled, ifaces, maps, wideKeys, modest, calm, conditions, laid).
  DERIVED. THE GIVEN ROWS OF THIS SEAT. 8 by the template 'for every input the law returns true; each argument reads behind the call as it read before'; 0 by the template 'total and deterministic' (their statements: Qxb6000182aTotals.lean).
  GIVEN WITH THE SEED: the statements are not yours to turn. If you find one false, say at which input.
  Laid BY PROGRAM, IN A SANDBOX (cutbox-rows.mjs): the forced cells as the released guide's own fill.sh prints them over the translation e710d8e723498c78… (all of the seat's roots in one cut). By AI agents, Wed Nov 11 2026. No macro, syntax, notation, axiom, sorry.
-/
import Derived.Test.Qxb6000182aChecked
import GoSem.Claim
import GoSem.ClaimJoined
import GoSem.ClaimMapViews
import Derived.JoinedTies
import Derived.KernelRfl
namespace Go.Proofs.Qxb6000182a
/- THE CELL 'sum', in the pinned program and in every row, IS THE sha256 OF THE DUMP (.gsa) THAT Qxb6000182aProg.lean LOADS. Nothing in Lean hashes anything: it is a label: what it is worth is what the hold of that sum in a sandbox is worth. -/
noncomputable def Try.pinned : Pinned := { name := "qxb6000182a", sum := "e710d8e723498c78a9fcba4d3148e6e194b4decdc99a70b0336ff3ffcb58dec9", checked := Try.checked }
namespace Rows
def none {H : Type} : Left H := { results := [], args := [] }

/-- 'zzlaws_pkg_history_b1.FnLongUvarintAtMatchesHornerModel': WHATEVER THE INPUT: true; the input reads as it did. -/
def fnLongUvarintAtMatchesHornerModelSpec : ChangeSpec := { name := "fnLongUvarintAtMatchesHornerModel", fn := fun _ => fun
  | [d1, d2] => { results := [.lit (.bool true)], args := [d1, d2] }
  | _ => none }
def fnLongUvarintAtMatchesHornerModelRow : OpenClaim := { program := "qxb6000182a", sum := "e710d8e723498c78a9fcba4d3148e6e194b4decdc99a70b0336ff3ffcb58dec9", func := "example.com/slackline/slackline/zzlaws_pkg_history_b1.FnLongUvarintAtMatchesHornerModel", spec := "fnLongUvarintAtMatchesHornerModel", apart := false }
def FnLongUvarintAtMatchesHornerModelSaid : Prop := fnLongUvarintAtMatchesHornerModelRow.holds Try.pinned (OpenSpec.ofChange fnLongUvarintAtMatchesHornerModelSpec)

/-- ITS FALSE NEIGHBOUR: 'it returns false'. Refute it at one input. -/
def fnLongUvarintAtMatchesHornerModelWrong : ChangeSpec := { name := "fnLongUvarintAtMatchesHornerModel", fn := fun _ => fun
  | [d1, d2] => { results := [.lit (.bool false)], args := [d1, d2] }
  | _ => none }
def FnLongUvarintAtMatchesHornerModelWrongFalsely : Prop := fnLongUvarintAtMatchesHornerModelRow.holds Try.pinned (OpenSpec.ofChange fnLongUvarintAtMatchesHornerModelWrong)

/-- 'zzlaws_pkg_history_b1.FnLongUvarintAtReadsBackEncoding': WHATEVER THE INPUT: true; the input reads as it did. -/
def fnLongUvarintAtReadsBackEncodingSpec : ChangeSpec := { name := "fnLongUvarintAtReadsBackEncoding", fn := fun _ => fun
  | [d1, d2, d3] => { results := [.lit (.bool true)], args := [d1, d2, d3] }
  | _ => none }
def fnLongUvarintAtReadsBackEncodingRow : OpenClaim := { program := "qxb6000182a", sum := "e710d8e723498c78a9fcba4d3148e6e194b4decdc99a70b0336ff3ffcb58dec9", func := "example.com/slackline/slackline/zzlaws_pkg_history_b1.FnLongUvarintAtReadsBackEncoding", spec := "fnLongUvarintAtReadsBackEncoding", apart := false }
def FnLongUvarintAtReadsBackEncodingSaid : Prop := fnLongUvarintAtReadsBackEncodingRow.holds Try.pinned (OpenSpec.ofChange fnLongUvarintAtReadsBackEncodingSpec)

/-- ITS FALSE NEIGHBOUR: 'it returns false'. Refute it at one input. -/
def fnLongUvarintAtReadsBackEncodingWrong : ChangeSpec := { name := "fnLongUvarintAtReadsBackEncoding", fn := fun _ => fun
  | [d1, d2, d3] => { results := [.lit (.bool false)], args := [d1, d2, d3] }
  | _ => none }
def FnLongUvarintAtReadsBackEncodingWrongFalsely : Prop := fnLongUvarintAtReadsBackEncodingRow.holds Try.pinned (OpenSpec.ofChange fnLongUvarintAtReadsBackEncodingWrong)

/-- 'zzlaws_pkg_history_b1.FnUvarintAtAgreesWithLongUvarintAt': WHATEVER THE INPUT: true; the input reads as it did. -/
def fnUvarintAtAgreesWithLongUvarintAtSpec : ChangeSpec := { name := "fnUvarintAtAgreesWithLongUvarintAt", fn := fun _ => fun
  | [d1, d2] => { results := [.lit (.bool true)], args := [d1, d2] }
  | _ => none }
def fnUvarintAtAgreesWithLongUvarintAtRow : OpenClaim := { program := "qxb6000182a", sum := "e710d8e723498c78a9fcba4d3148e6e194b4decdc99a70b0336ff3ffcb58dec9", func := "example.com/slackline/slackline/zzlaws_pkg_history_b1.FnUvarintAtAgreesWithLongUvarintAt", spec := "fnUvarintAtAgreesWithLongUvarintAt", apart := false }
def FnUvarintAtAgreesWithLongUvarintAtSaid : Prop := fnUvarintAtAgreesWithLongUvarintAtRow.holds Try.pinned (OpenSpec.ofChange fnUvarintAtAgreesWithLongUvarintAtSpec)

/-- ITS FALSE NEIGHBOUR: 'it returns false'. Refute it at one input. -/
def fnUvarintAtAgreesWithLongUvarintAtWrong : ChangeSpec := { name := "fnUvarintAtAgreesWithLongUvarintAt", fn := fun _ => fun
  | [d1, d2] => { results := [.lit (.bool false)], args := [d1, d2] }
  | _ => none }
def FnUvarintAtAgreesWithLongUvarintAtWrongFalsely : Prop := fnUvarintAtAgreesWithLongUvarintAtRow.holds Try.pinned (OpenSpec.ofChange fnUvarintAtAgreesWithLongUvarintAtWrong)

/-- 'zzlaws_pkg_history_b1.FnPlaceReadsBackEncodedRecord': WHATEVER THE INPUT: true; the input reads as it did. -/
def fnPlaceReadsBackEncodedRecordSpec : ChangeSpec := { name := "fnPlaceReadsBackEncodedRecord", fn := fun _ => fun
  | [d1, d2, d3, d4, d5, d6, d7, d8, d9, d10, d11, d12] => { results := [.lit (.bool true)], args := [d1, d2, d3, d4, d5, d6, d7, d8, d9, d10, d11, d12] }
  | _ => none }
def fnPlaceReadsBackEncodedRecordRow : OpenClaim := { program := "qxb6000182a", sum := "e710d8e723498c78a9fcba4d3148e6e194b4decdc99a70b0336ff3ffcb58dec9", func := "example.com/slackline/slackline/zzlaws_pkg_history_b1.FnPlaceReadsBackEncodedRecord", spec := "fnPlaceReadsBackEncodedRecord", apart := false }
def FnPlaceReadsBackEncodedRecordSaid : Prop := fnPlaceReadsBackEncodedRecordRow.holds Try.pinned (OpenSpec.ofChange fnPlaceReadsBackEncodedRecordSpec)

/-- ITS FALSE NEIGHBOUR: 'it returns false'. Refute it at one input. -/
def fnPlaceReadsBackEncodedRecordWrong : ChangeSpec := { name := "fnPlaceReadsBackEncodedRecord", fn := fun _ => fun
  | [d1, d2, d3, d4, d5, d6, d7, d8, d9, d10, d11, d12] => { results := [.lit (.bool false)], args := [d1, d2, d3, d4, d5, d6, d7, d8, d9, d10, d11, d12] }
  | _ => none }
def FnPlaceReadsBackEncodedRecordWrongFalsely : Prop := fnPlaceReadsBackEncodedRecordRow.holds Try.pinned (OpenSpec.ofChange fnPlaceReadsBackEncodedRecordWrong)

/-- 'zzlaws_pkg_history_b1.FnPlaceRefusesCutRecordAndRetries': WHATEVER THE INPUT: true; the input reads as it did. -/
def fnPlaceRefusesCutRecordAndRetriesSpec : ChangeSpec := { name := "fnPlaceRefusesCutRecordAndRetries", fn := fun _ => fun
  | [d1, d2, d3, d4, d5, d6, d7, d8, d9, d10, d11] => { results := [.lit (.bool true)], args := [d1, d2, d3, d4, d5, d6, d7, d8, d9, d10, d11] }
  | _ => none }
def fnPlaceRefusesCutRecordAndRetriesRow : OpenClaim := { program := "qxb6000182a", sum := "e710d8e723498c78a9fcba4d3148e6e194b4decdc99a70b0336ff3ffcb58dec9", func := "example.com/slackline/slackline/zzlaws_pkg_history_b1.FnPlaceRefusesCutRecordAndRetries", spec := "fnPlaceRefusesCutRecordAndRetries", apart := false }
def FnPlaceRefusesCutRecordAndRetriesSaid : Prop := fnPlaceRefusesCutRecordAndRetriesRow.holds Try.pinned (OpenSpec.ofChange fnPlaceRefusesCutRecordAndRetriesSpec)

/-- ITS FALSE NEIGHBOUR: 'it returns false'. Refute it at one input. -/
def fnPlaceRefusesCutRecordAndRetriesWrong : ChangeSpec := { name := "fnPlaceRefusesCutRecordAndRetries", fn := fun _ => fun
  | [d1, d2, d3, d4, d5, d6, d7, d8, d9, d10, d11] => { results := [.lit (.bool false)], args := [d1, d2, d3, d4, d5, d6, d7, d8, d9, d10, d11] }
  | _ => none }
def FnPlaceRefusesCutRecordAndRetriesWrongFalsely : Prop := fnPlaceRefusesCutRecordAndRetriesRow.holds Try.pinned (OpenSpec.ofChange fnPlaceRefusesCutRecordAndRetriesWrong)

/-- 'zzlaws_pkg_history_b1.FnPlaceKeepsFlagMeanings': WHATEVER THE INPUT: true; the input reads as it did. -/
def fnPlaceKeepsFlagMeaningsSpec : ChangeSpec := { name := "fnPlaceKeepsFlagMeanings", fn := fun _ => fun
  | [d1, d2, d3, d4, d5, d6, d7, d8, d9, d10, d11, d12] => { results := [.lit (.bool true)], args := [d1, d2, d3, d4, d5, d6, d7, d8, d9, d10, d11, d12] }
  | _ => none }
def fnPlaceKeepsFlagMeaningsRow : OpenClaim := { program := "qxb6000182a", sum := "e710d8e723498c78a9fcba4d3148e6e194b4decdc99a70b0336ff3ffcb58dec9", func := "example.com/slackline/slackline/zzlaws_pkg_history_b1.FnPlaceKeepsFlagMeanings", spec := "fnPlaceKeepsFlagMeanings", apart := false }
def FnPlaceKeepsFlagMeaningsSaid : Prop := fnPlaceKeepsFlagMeaningsRow.holds Try.pinned (OpenSpec.ofChange fnPlaceKeepsFlagMeaningsSpec)

/-- ITS FALSE NEIGHBOUR: 'it returns false'. Refute it at one input. -/
def fnPlaceKeepsFlagMeaningsWrong : ChangeSpec := { name := "fnPlaceKeepsFlagMeanings", fn := fun _ => fun
  | [d1, d2, d3, d4, d5, d6, d7, d8, d9, d10, d11, d12] => { results := [.lit (.bool false)], args := [d1, d2, d3, d4, d5, d6, d7, d8, d9, d10, d11, d12] }
  | _ => none }
def FnPlaceKeepsFlagMeaningsWrongFalsely : Prop := fnPlaceKeepsFlagMeaningsRow.holds Try.pinned (OpenSpec.ofChange fnPlaceKeepsFlagMeaningsWrong)

/-- 'zzlaws_pkg_history_b1.FnDownIsTextbookSiftDown': WHATEVER THE INPUT: true; the input reads as it did. -/
def fnDownIsTextbookSiftDownSpec : ChangeSpec := { name := "fnDownIsTextbookSiftDown", fn := fun _ => fun
  | [d1, d2, d3, d4, d5] => { results := [.lit (.bool true)], args := [d1, d2, d3, d4, d5] }
  | _ => none }
def fnDownIsTextbookSiftDownRow : OpenClaim := { program := "qxb6000182a", sum := "e710d8e723498c78a9fcba4d3148e6e194b4decdc99a70b0336ff3ffcb58dec9", func := "example.com/slackline/slackline/zzlaws_pkg_history_b1.FnDownIsTextbookSiftDown", spec := "fnDownIsTextbookSiftDown", apart := false }
def FnDownIsTextbookSiftDownSaid : Prop := fnDownIsTextbookSiftDownRow.holds Try.pinned (OpenSpec.ofChange fnDownIsTextbookSiftDownSpec)

/-- ITS FALSE NEIGHBOUR: 'it returns false'. Refute it at one input. -/
def fnDownIsTextbookSiftDownWrong : ChangeSpec := { name := "fnDownIsTextbookSiftDown", fn := fun _ => fun
  | [d1, d2, d3, d4, d5] => { results := [.lit (.bool false)], args := [d1, d2, d3, d4, d5] }
  | _ => none }
def FnDownIsTextbookSiftDownWrongFalsely : Prop := fnDownIsTextbookSiftDownRow.holds Try.pinned (OpenSpec.ofChange fnDownIsTextbookSiftDownWrong)

/-- 'zzlaws_pkg_history_b1.FnDownLeavesHeapPermutationAndOutsideAlone': WHATEVER THE INPUT: true; the input reads as it did. -/
def fnDownLeavesHeapPermutationAndOutsideAloneSpec : ChangeSpec := { name := "fnDownLeavesHeapPermutationAndOutsideAlone", fn := fun _ => fun
  | [d1, d2, d3, d4, d5] => { results := [.lit (.bool true)], args := [d1, d2, d3, d4, d5] }
  | _ => none }
def fnDownLeavesHeapPermutationAndOutsideAloneRow : OpenClaim := { program := "qxb6000182a", sum := "e710d8e723498c78a9fcba4d3148e6e194b4decdc99a70b0336ff3ffcb58dec9", func := "example.com/slackline/slackline/zzlaws_pkg_history_b1.FnDownLeavesHeapPermutationAndOutsideAlone", spec := "fnDownLeavesHeapPermutationAndOutsideAlone", apart := false }
def FnDownLeavesHeapPermutationAndOutsideAloneSaid : Prop := fnDownLeavesHeapPermutationAndOutsideAloneRow.holds Try.pinned (OpenSpec.ofChange fnDownLeavesHeapPermutationAndOutsideAloneSpec)

/-- ITS FALSE NEIGHBOUR: 'it returns false'. Refute it at one input. -/
def fnDownLeavesHeapPermutationAndOutsideAloneWrong : ChangeSpec := { name := "fnDownLeavesHeapPermutationAndOutsideAlone", fn := fun _ => fun
  | [d1, d2, d3, d4, d5] => { results := [.lit (.bool false)], args := [d1, d2, d3, d4, d5] }
  | _ => none }
def FnDownLeavesHeapPermutationAndOutsideAloneWrongFalsely : Prop := fnDownLeavesHeapPermutationAndOutsideAloneRow.holds Try.pinned (OpenSpec.ofChange fnDownLeavesHeapPermutationAndOutsideAloneWrong)

end Rows
end Go.Proofs.Qxb6000182a
