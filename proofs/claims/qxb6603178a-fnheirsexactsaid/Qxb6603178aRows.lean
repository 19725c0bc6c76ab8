/-
  No cell of these rows narrows 'for every input' (looked for: loops, veiled, ifaces, maps, wideKeys, modest, calm, conditions, laid).
  DERIVED. THE GIVEN ROWS OF THIS SEAT. 5 by the template 'for every input the law returns true; each argument reads behind the call as it read before'; 0 by the template 'total and deterministic' (their statements: Qxb6603178aTotals.lean).
  GIVEN WITH THE SEED: the statements are not yours to turn. If you find one false, say at which input.
  Laid BY PROGRAM, IN A SANDBOX (cutbox-rows.mjs): the forced cells as the released guide's own fill.sh prints them over the translation dc869e419145f071… (all of the seat's roots in one cut). By AI agents, Wed Nov 11 2026. No macro, syntax, notation, axiom, sorry.
-/
import Derived.Test.Qxb6603178aChecked
import GoSem.Claim
import GoSem.ClaimJoined
import GoSem.ClaimMapViews
import Derived.JoinedTies
import Derived.KernelRfl
namespace Go.Proofs.Qxb6603178a
/- THE CELL 'sum', in the pinned program and in every row, IS THE sha256 OF THE DUMP (.gsa) THAT Qxb6603178aProg.lean LOADS. Nothing in Lean hashes anything: it is a label: what it is worth is what the hold of that sum in a sandbox is worth. -/
noncomputable def Try.pinned : Pinned := { name := "qxb6603178a", sum := "dc869e419145f071e6b2348fffea983bda02584f3883eb7f17982e3062a67f6c", checked := Try.checked }
namespace Rows
def none {H : Type} : Left H := { results := [], args := [] }

/-- 'zzlaws_hypercube_b1.FnFromHoldersBuildsCoverLists': WHATEVER THE INPUT: true; the input reads as it did. -/
def fnFromHoldersBuildsCoverListsSpec : ChangeSpec := { name := "fnFromHoldersBuildsCoverLists", fn := fun _ => fun
  | [d1, d2, d3] => { results := [.lit (.bool true)], args := [d1, d2, d3] }
  | _ => none }
def fnFromHoldersBuildsCoverListsRow : OpenClaim := { program := "qxb6603178a", sum := "dc869e419145f071e6b2348fffea983bda02584f3883eb7f17982e3062a67f6c", func := "example.com/overlace/overlace/zzlaws_hypercube_b1.FnFromHoldersBuildsCoverLists", spec := "fnFromHoldersBuildsCoverLists", apart := false }
def FnFromHoldersBuildsCoverListsSaid : Prop := fnFromHoldersBuildsCoverListsRow.holds Try.pinned (OpenSpec.ofChange fnFromHoldersBuildsCoverListsSpec)

/-- ITS FALSE NEIGHBOUR: 'it returns false'. Refute it at one input. -/
def fnFromHoldersBuildsCoverListsWrong : ChangeSpec := { name := "fnFromHoldersBuildsCoverLists", fn := fun _ => fun
  | [d1, d2, d3] => { results := [.lit (.bool false)], args := [d1, d2, d3] }
  | _ => none }
def FnFromHoldersBuildsCoverListsWrongFalsely : Prop := fnFromHoldersBuildsCoverListsRow.holds Try.pinned (OpenSpec.ofChange fnFromHoldersBuildsCoverListsWrong)

/-- 'zzlaws_hypercube_b1.FnFromHoldersViolationsCountClaimsByOthers': WHATEVER THE INPUT: true; the input reads as it did. -/
def fnFromHoldersViolationsCountClaimsByOthersSpec : ChangeSpec := { name := "fnFromHoldersViolationsCountClaimsByOthers", fn := fun _ => fun
  | [d1, d2, d3] => { results := [.lit (.bool true)], args := [d1, d2, d3] }
  | _ => none }
def fnFromHoldersViolationsCountClaimsByOthersRow : OpenClaim := { program := "qxb6603178a", sum := "dc869e419145f071e6b2348fffea983bda02584f3883eb7f17982e3062a67f6c", func := "example.com/overlace/overlace/zzlaws_hypercube_b1.FnFromHoldersViolationsCountClaimsByOthers", spec := "fnFromHoldersViolationsCountClaimsByOthers", unfollowed := true, recurses := true, apart := false }
def FnFromHoldersViolationsCountClaimsByOthersSaid : Prop := fnFromHoldersViolationsCountClaimsByOthersRow.holds Try.pinned (OpenSpec.ofChange fnFromHoldersViolationsCountClaimsByOthersSpec)

/-- ITS FALSE NEIGHBOUR: 'it returns false'. Refute it at one input. -/
def fnFromHoldersViolationsCountClaimsByOthersWrong : ChangeSpec := { name := "fnFromHoldersViolationsCountClaimsByOthers", fn := fun _ => fun
  | [d1, d2, d3] => { results := [.lit (.bool false)], args := [d1, d2, d3] }
  | _ => none }
def FnFromHoldersViolationsCountClaimsByOthersWrongFalsely : Prop := fnFromHoldersViolationsCountClaimsByOthersRow.holds Try.pinned (OpenSpec.ofChange fnFromHoldersViolationsCountClaimsByOthersWrong)

/-- 'zzlaws_hypercube_b1.FnViolationsCountsMisheldPositions': WHATEVER THE INPUT: true; the input reads as it did. -/
def fnViolationsCountsMisheldPositionsSpec : ChangeSpec := { name := "fnViolationsCountsMisheldPositions", fn := fun _ => fun
  | [d1, d2, d3, d4, d5, d6, d7] => { results := [.lit (.bool true)], args := [d1, d2, d3, d4, d5, d6, d7] }
  | _ => none }
def fnViolationsCountsMisheldPositionsRow : OpenClaim := { program := "qxb6603178a", sum := "dc869e419145f071e6b2348fffea983bda02584f3883eb7f17982e3062a67f6c", func := "example.com/overlace/overlace/zzlaws_hypercube_b1.FnViolationsCountsMisheldPositions", spec := "fnViolationsCountsMisheldPositions", unfollowed := true, recurses := true, apart := false }
def FnViolationsCountsMisheldPositionsSaid : Prop := fnViolationsCountsMisheldPositionsRow.holds Try.pinned (OpenSpec.ofChange fnViolationsCountsMisheldPositionsSpec)

/-- ITS FALSE NEIGHBOUR: 'it returns false'. Refute it at one input. -/
def fnViolationsCountsMisheldPositionsWrong : ChangeSpec := { name := "fnViolationsCountsMisheldPositions", fn := fun _ => fun
  | [d1, d2, d3, d4, d5, d6, d7] => { results := [.lit (.bool false)], args := [d1, d2, d3, d4, d5, d6, d7] }
  | _ => none }
def FnViolationsCountsMisheldPositionsWrongFalsely : Prop := fnViolationsCountsMisheldPositionsRow.holds Try.pinned (OpenSpec.ofChange fnViolationsCountsMisheldPositionsWrong)

/-- 'zzlaws_hypercube_b1.FnHeirsExact': WHATEVER THE INPUT: true; the input reads as it did. -/
def fnHeirsExactSpec : ChangeSpec := { name := "fnHeirsExact", fn := fun _ => fun
  | [d1, d2, d3, d4, d5, d6, d7, d8, d9] => { results := [.lit (.bool true)], args := [d1, d2, d3, d4, d5, d6, d7, d8, d9] }
  | _ => none }
def fnHeirsExactRow : OpenClaim := { program := "qxb6603178a", sum := "dc869e419145f071e6b2348fffea983bda02584f3883eb7f17982e3062a67f6c", func := "example.com/overlace/overlace/zzlaws_hypercube_b1.FnHeirsExact", spec := "fnHeirsExact", apart := false }
def FnHeirsExactSaid : Prop := fnHeirsExactRow.holds Try.pinned (OpenSpec.ofChange fnHeirsExactSpec)

/-- ITS FALSE NEIGHBOUR: 'it returns false'. Refute it at one input. -/
def fnHeirsExactWrong : ChangeSpec := { name := "fnHeirsExact", fn := fun _ => fun
  | [d1, d2, d3, d4, d5, d6, d7, d8, d9] => { results := [.lit (.bool false)], args := [d1, d2, d3, d4, d5, d6, d7, d8, d9] }
  | _ => none }
def FnHeirsExactWrongFalsely : Prop := fnHeirsExactRow.holds Try.pinned (OpenSpec.ofChange fnHeirsExactWrong)

/-- 'zzlaws_hypercube_b1.FnHeirsRepeatableAnyOrder': WHATEVER THE INPUT: true; the input reads as it did. -/
def fnHeirsRepeatableAnyOrderSpec : ChangeSpec := { name := "fnHeirsRepeatableAnyOrder", fn := fun _ => fun
  | [d1, d2, d3, d4, d5, d6, d7, d8, d9] => { results := [.lit (.bool true)], args := [d1, d2, d3, d4, d5, d6, d7, d8, d9] }
  | _ => none }
def fnHeirsRepeatableAnyOrderRow : OpenClaim := { program := "qxb6603178a", sum := "dc869e419145f071e6b2348fffea983bda02584f3883eb7f17982e3062a67f6c", func := "example.com/overlace/overlace/zzlaws_hypercube_b1.FnHeirsRepeatableAnyOrder", spec := "fnHeirsRepeatableAnyOrder", apart := false }
def FnHeirsRepeatableAnyOrderSaid : Prop := fnHeirsRepeatableAnyOrderRow.holds Try.pinned (OpenSpec.ofChange fnHeirsRepeatableAnyOrderSpec)

/-- ITS FALSE NEIGHBOUR: 'it returns false'. Refute it at one input. -/
def fnHeirsRepeatableAnyOrderWrong : ChangeSpec := { name := "fnHeirsRepeatableAnyOrder", fn := fun _ => fun
  | [d1, d2, d3, d4, d5, d6, d7, d8, d9] => { results := [.lit (.bool false)], args := [d1, d2, d3, d4, d5, d6, d7, d8, d9] }
  | _ => none }
def FnHeirsRepeatableAnyOrderWrongFalsely : Prop := fnHeirsRepeatableAnyOrderRow.holds Try.pinned (OpenSpec.ofChange fnHeirsRepeatableAnyOrderWrong)

end Rows
end Go.Proofs.Qxb6603178a
