/-
  No cell of these rows narrows 'for every input' (looked for: loops, veiled, ifaces, maps, wideKeys, modest, calm, conditions, laid).
  DERIVED. THE GIVEN ROWS OF THIS SEAT. 8 by the template 'for every input the law returns true; each argument reads behind the call as it read before'; 0 by the template 'total and deterministic' (their statements: Qxb6603356aTotals.lean).
  GIVEN WITH THE SEED: the statements are not yours to turn. If you find one false, say at which input.
  Laid BY PROGRAM, IN A SANDBOX (cutbox-rows.mjs): the forced cells as the released guide's own fill.sh prints them over the translation 26d96430179f96c4… (all of the seat's roots in one cut). By AI agents, Wed Nov 11 2026. No macro, syntax, notation, axiom, sorry.
-/
import Derived.Test.Qxb6603356aChecked
import GoSem.Claim
import GoSem.ClaimJoined
import GoSem.ClaimMapViews
import Derived.JoinedTies
import Derived.KernelRfl
namespace Go.Proofs.Qxb6603356a
/- THE CELL 'sum', in the pinned program and in every row, IS THE sha256 OF THE DUMP (.gsa) THAT Qxb6603356aProg.lean LOADS. Nothing in Lean hashes anything: it is a label: what it is worth is what the hold of that sum in a sandbox is worth. -/
noncomputable def Try.pinned : Pinned := { name := "qxb6603356a", sum := "26d96430179f96c40eb39043ad5bd2123ff77f4f1010816fef84fcb71a1b6678", checked := Try.checked }
namespace Rows
def none {H : Type} : Left H := { results := [], args := [] }

/-- 'zzlaws_root_b1.FnBatchPlaceholders': WHATEVER THE INPUT: true; the input reads as it did. -/
def fnBatchPlaceholdersSpec : ChangeSpec := { name := "fnBatchPlaceholders", fn := fun _ => fun
  | [d1, d2] => { results := [.lit (.bool true)], args := [d1, d2] }
  | _ => none }
def fnBatchPlaceholdersRow : OpenClaim := { program := "qxb6603356a", sum := "26d96430179f96c40eb39043ad5bd2123ff77f4f1010816fef84fcb71a1b6678", func := "example.com/singlefold/singlefold/zzlaws_root_b1.FnBatchPlaceholders", spec := "fnBatchPlaceholders", apart := false }
def FnBatchPlaceholdersSaid : Prop := fnBatchPlaceholdersRow.holds Try.pinned (OpenSpec.ofChange fnBatchPlaceholdersSpec)

/-- ITS FALSE NEIGHBOUR: 'it returns false'. Refute it at one input. -/
def fnBatchPlaceholdersWrong : ChangeSpec := { name := "fnBatchPlaceholders", fn := fun _ => fun
  | [d1, d2] => { results := [.lit (.bool false)], args := [d1, d2] }
  | _ => none }
def FnBatchPlaceholdersWrongFalsely : Prop := fnBatchPlaceholdersRow.holds Try.pinned (OpenSpec.ofChange fnBatchPlaceholdersWrong)

/-- 'zzlaws_root_b1.FnBatchByQueueAddsOneClause': WHATEVER THE INPUT: true; the input reads as it did. -/
def fnBatchByQueueAddsOneClauseSpec : ChangeSpec := { name := "fnBatchByQueueAddsOneClause", fn := fun _ => fun
  | [d] => { results := [.lit (.bool true)], args := [d] }
  | _ => none }
def fnBatchByQueueAddsOneClauseRow : OpenClaim := { program := "qxb6603356a", sum := "26d96430179f96c40eb39043ad5bd2123ff77f4f1010816fef84fcb71a1b6678", func := "example.com/singlefold/singlefold/zzlaws_root_b1.FnBatchByQueueAddsOneClause", spec := "fnBatchByQueueAddsOneClause", apart := false }
def FnBatchByQueueAddsOneClauseSaid : Prop := fnBatchByQueueAddsOneClauseRow.holds Try.pinned (OpenSpec.ofChange fnBatchByQueueAddsOneClauseSpec)

/-- ITS FALSE NEIGHBOUR: 'it returns false'. Refute it at one input. -/
def fnBatchByQueueAddsOneClauseWrong : ChangeSpec := { name := "fnBatchByQueueAddsOneClause", fn := fun _ => fun
  | [d] => { results := [.lit (.bool false)], args := [d] }
  | _ => none }
def FnBatchByQueueAddsOneClauseWrongFalsely : Prop := fnBatchByQueueAddsOneClauseRow.holds Try.pinned (OpenSpec.ofChange fnBatchByQueueAddsOneClauseWrong)

/-- 'zzlaws_root_b1.FnBatchTableSplicedTwice': WHATEVER THE INPUT: true; the input reads as it did. -/
def fnBatchTableSplicedTwiceSpec : ChangeSpec := { name := "fnBatchTableSplicedTwice", fn := fun _ => fun
  | [d1, d2, d3] => { results := [.lit (.bool true)], args := [d1, d2, d3] }
  | _ => none }
def fnBatchTableSplicedTwiceRow : OpenClaim := { program := "qxb6603356a", sum := "26d96430179f96c40eb39043ad5bd2123ff77f4f1010816fef84fcb71a1b6678", func := "example.com/singlefold/singlefold/zzlaws_root_b1.FnBatchTableSplicedTwice", spec := "fnBatchTableSplicedTwice", apart := false }
def FnBatchTableSplicedTwiceSaid : Prop := fnBatchTableSplicedTwiceRow.holds Try.pinned (OpenSpec.ofChange fnBatchTableSplicedTwiceSpec)

/-- ITS FALSE NEIGHBOUR: 'it returns false'. Refute it at one input. -/
def fnBatchTableSplicedTwiceWrong : ChangeSpec := { name := "fnBatchTableSplicedTwice", fn := fun _ => fun
  | [d1, d2, d3] => { results := [.lit (.bool false)], args := [d1, d2, d3] }
  | _ => none }
def FnBatchTableSplicedTwiceWrongFalsely : Prop := fnBatchTableSplicedTwiceRow.holds Try.pinned (OpenSpec.ofChange fnBatchTableSplicedTwiceWrong)

/-- 'zzlaws_root_b1.FnPlainClaimRunsAndPutOffsSpliced': WHATEVER THE INPUT: true; the input reads as it did. -/
def fnPlainClaimRunsAndPutOffsSplicedSpec : ChangeSpec := { name := "fnPlainClaimRunsAndPutOffsSpliced", fn := fun _ => fun
  | [d1, d2, d3, d4, d5, d6, d7] => { results := [.lit (.bool true)], args := [d1, d2, d3, d4, d5, d6, d7] }
  | _ => none }
def fnPlainClaimRunsAndPutOffsSplicedRow : OpenClaim := { program := "qxb6603356a", sum := "26d96430179f96c40eb39043ad5bd2123ff77f4f1010816fef84fcb71a1b6678", func := "example.com/singlefold/singlefold/zzlaws_root_b1.FnPlainClaimRunsAndPutOffsSpliced", spec := "fnPlainClaimRunsAndPutOffsSpliced", apart := false }
def FnPlainClaimRunsAndPutOffsSplicedSaid : Prop := fnPlainClaimRunsAndPutOffsSplicedRow.holds Try.pinned (OpenSpec.ofChange fnPlainClaimRunsAndPutOffsSplicedSpec)

/-- ITS FALSE NEIGHBOUR: 'it returns false'. Refute it at one input. -/
def fnPlainClaimRunsAndPutOffsSplicedWrong : ChangeSpec := { name := "fnPlainClaimRunsAndPutOffsSpliced", fn := fun _ => fun
  | [d1, d2, d3, d4, d5, d6, d7] => { results := [.lit (.bool false)], args := [d1, d2, d3, d4, d5, d6, d7] }
  | _ => none }
def FnPlainClaimRunsAndPutOffsSplicedWrongFalsely : Prop := fnPlainClaimRunsAndPutOffsSplicedRow.holds Try.pinned (OpenSpec.ofChange fnPlainClaimRunsAndPutOffsSplicedWrong)

/-- 'zzlaws_root_b1.FnPlainClaimInLineOnlyWhenRecording': WHATEVER THE INPUT: true; the input reads as it did. -/
def fnPlainClaimInLineOnlyWhenRecordingSpec : ChangeSpec := { name := "fnPlainClaimInLineOnlyWhenRecording", fn := fun _ => fun
  | [d1, d2, d3, d4, d5, d6, d7] => { results := [.lit (.bool true)], args := [d1, d2, d3, d4, d5, d6, d7] }
  | _ => none }
def fnPlainClaimInLineOnlyWhenRecordingRow : OpenClaim := { program := "qxb6603356a", sum := "26d96430179f96c40eb39043ad5bd2123ff77f4f1010816fef84fcb71a1b6678", func := "example.com/singlefold/singlefold/zzlaws_root_b1.FnPlainClaimInLineOnlyWhenRecording", spec := "fnPlainClaimInLineOnlyWhenRecording", apart := false }
def FnPlainClaimInLineOnlyWhenRecordingSaid : Prop := fnPlainClaimInLineOnlyWhenRecordingRow.holds Try.pinned (OpenSpec.ofChange fnPlainClaimInLineOnlyWhenRecordingSpec)

/-- ITS FALSE NEIGHBOUR: 'it returns false'. Refute it at one input. -/
def fnPlainClaimInLineOnlyWhenRecordingWrong : ChangeSpec := { name := "fnPlainClaimInLineOnlyWhenRecording", fn := fun _ => fun
  | [d1, d2, d3, d4, d5, d6, d7] => { results := [.lit (.bool false)], args := [d1, d2, d3, d4, d5, d6, d7] }
  | _ => none }
def FnPlainClaimInLineOnlyWhenRecordingWrongFalsely : Prop := fnPlainClaimInLineOnlyWhenRecordingRow.holds Try.pinned (OpenSpec.ofChange fnPlainClaimInLineOnlyWhenRecordingWrong)

/-- 'zzlaws_root_b1.FnPlainClaimSignature': WHATEVER THE INPUT: true; the input reads as it did. -/
def fnPlainClaimSignatureSpec : ChangeSpec := { name := "fnPlainClaimSignature", fn := fun _ => fun
  | [d1, d2, d3, d4, d5] => { results := [.lit (.bool true)], args := [d1, d2, d3, d4, d5] }
  | _ => none }
def fnPlainClaimSignatureRow : OpenClaim := { program := "qxb6603356a", sum := "26d96430179f96c40eb39043ad5bd2123ff77f4f1010816fef84fcb71a1b6678", func := "example.com/singlefold/singlefold/zzlaws_root_b1.FnPlainClaimSignature", spec := "fnPlainClaimSignature", apart := false }
def FnPlainClaimSignatureSaid : Prop := fnPlainClaimSignatureRow.holds Try.pinned (OpenSpec.ofChange fnPlainClaimSignatureSpec)

/-- ITS FALSE NEIGHBOUR: 'it returns false'. Refute it at one input. -/
def fnPlainClaimSignatureWrong : ChangeSpec := { name := "fnPlainClaimSignature", fn := fun _ => fun
  | [d1, d2, d3, d4, d5] => { results := [.lit (.bool false)], args := [d1, d2, d3, d4, d5] }
  | _ => none }
def FnPlainClaimSignatureWrongFalsely : Prop := fnPlainClaimSignatureRow.holds Try.pinned (OpenSpec.ofChange fnPlainClaimSignatureWrong)

/-- 'zzlaws_root_b1.FnRecordStartsSplicesOnlyInLine': WHATEVER THE INPUT: true; the input reads as it did. -/
def fnRecordStartsSplicesOnlyInLineSpec : ChangeSpec := { name := "fnRecordStartsSplicesOnlyInLine", fn := fun _ => fun
  | [d1, d2, d3, d4, d5, d6, d7, d8, d9, d10] => { results := [.lit (.bool true)], args := [d1, d2, d3, d4, d5, d6, d7, d8, d9, d10] }
  | _ => none }
def fnRecordStartsSplicesOnlyInLineRow : OpenClaim := { program := "qxb6603356a", sum := "26d96430179f96c40eb39043ad5bd2123ff77f4f1010816fef84fcb71a1b6678", func := "example.com/singlefold/singlefold/zzlaws_root_b1.FnRecordStartsSplicesOnlyInLine", spec := "fnRecordStartsSplicesOnlyInLine", apart := false }
def FnRecordStartsSplicesOnlyInLineSaid : Prop := fnRecordStartsSplicesOnlyInLineRow.holds Try.pinned (OpenSpec.ofChange fnRecordStartsSplicesOnlyInLineSpec)

/-- ITS FALSE NEIGHBOUR: 'it returns false'. Refute it at one input. -/
def fnRecordStartsSplicesOnlyInLineWrong : ChangeSpec := { name := "fnRecordStartsSplicesOnlyInLine", fn := fun _ => fun
  | [d1, d2, d3, d4, d5, d6, d7, d8, d9, d10] => { results := [.lit (.bool false)], args := [d1, d2, d3, d4, d5, d6, d7, d8, d9, d10] }
  | _ => none }
def FnRecordStartsSplicesOnlyInLineWrongFalsely : Prop := fnRecordStartsSplicesOnlyInLineRow.holds Try.pinned (OpenSpec.ofChange fnRecordStartsSplicesOnlyInLineWrong)

/-- 'zzlaws_root_b1.FnRecordStartsPlaceholders': WHATEVER THE INPUT: true; the input reads as it did. -/
def fnRecordStartsPlaceholdersSpec : ChangeSpec := { name := "fnRecordStartsPlaceholders", fn := fun _ => fun
  | [d1, d2, d3, d4, d5] => { results := [.lit (.bool true)], args := [d1, d2, d3, d4, d5] }
  | _ => none }
def fnRecordStartsPlaceholdersRow : OpenClaim := { program := "qxb6603356a", sum := "26d96430179f96c40eb39043ad5bd2123ff77f4f1010816fef84fcb71a1b6678", func := "example.com/singlefold/singlefold/zzlaws_root_b1.FnRecordStartsPlaceholders", spec := "fnRecordStartsPlaceholders", apart := false }
def FnRecordStartsPlaceholdersSaid : Prop := fnRecordStartsPlaceholdersRow.holds Try.pinned (OpenSpec.ofChange fnRecordStartsPlaceholdersSpec)

/-- ITS FALSE NEIGHBOUR: 'it returns false'. Refute it at one input. -/
def fnRecordStartsPlaceholdersWrong : ChangeSpec := { name := "fnRecordStartsPlaceholders", fn := fun _ => fun
  | [d1, d2, d3, d4, d5] => { results := [.lit (.bool false)], args := [d1, d2, d3, d4, d5] }
  | _ => none }
def FnRecordStartsPlaceholdersWrongFalsely : Prop := fnRecordStartsPlaceholdersRow.holds Try.pinned (OpenSpec.ofChange fnRecordStartsPlaceholdersWrong)

end Rows
end Go.Proofs.Qxb6603356a
