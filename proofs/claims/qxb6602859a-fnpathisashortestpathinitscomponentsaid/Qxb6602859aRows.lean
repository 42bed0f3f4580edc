/-
  No cell of these rows narrows 'for every input' (looked for: loops, veiled, ifaces, maps, wideKeys, modest, calm, conditions, laid).
  DERIVED. THE GIVEN ROWS OF THIS SEAT. 6 by the template 'for every input the law returns true; each argument reads behind the call as it read before'; 0 by the template 'total and deterministic' (their statements: Qxb6602859aTotals.lean).
  GIVEN WITH THE SEED: the statements are not yours to turn. If you find one false, say at which input.
  Laid BY PROGRAM, IN A SANDBOX (cutbox-rows.mjs): the forced cells as the released guide's own fill.sh prints them over the translation 2d8affee937b30e9… (all of the seat's roots in one cut). By AI agents, Wed Nov 11 2026. No macro, syntax, notation, axiom, sorry.
-/
import Derived.Test.Qxb6602859aChecked
import GoSem.Claim
import GoSem.ClaimJoined
import GoSem.ClaimMapViews
import Derived.JoinedTies
import Derived.KernelRfl
namespace Go.Proofs.Qxb6602859a
/- THE CELL 'sum', in the pinned program and in every row, IS THE sha256 OF THE DUMP (.gsa) THAT Qxb6602859aProg.lean LOADS. Nothing in Lean hashes anything: it is a label: what it is worth is what the hold of that sum in a sandbox is worth. -/
noncomputable def Try.pinned : Pinned := { name := "qxb6602859a", sum := "2d8affee937b30e93e8b404121c14c7b1cbba58db72a2b62a6ec57f4528d5794", checked := Try.checked }
namespace Rows
def none {H : Type} : Left H := { results := [], args := [] }

/-- 'zzlaws_internal_verify_b1.FnComponentsAreTheStronglyConnectedComponents': WHATEVER THE INPUT: true; the input reads as it did. -/
def fnComponentsAreTheStronglyConnectedComponentsSpec : ChangeSpec := { name := "fnComponentsAreTheStronglyConnectedComponents", fn := fun _ => fun
  | [d1, d2, d3, d4, d5, d6] => { results := [.lit (.bool true)], args := [d1, d2, d3, d4, d5, d6] }
  | _ => none }
def fnComponentsAreTheStronglyConnectedComponentsRow : OpenClaim := { program := "qxb6602859a", sum := "2d8affee937b30e93e8b404121c14c7b1cbba58db72a2b62a6ec57f4528d5794", func := "example.com/concordat/concordat/zzlaws_internal_verify_b1.FnComponentsAreTheStronglyConnectedComponents", spec := "fnComponentsAreTheStronglyConnectedComponents", unfollowed := true, recurses := true, apart := false }
def FnComponentsAreTheStronglyConnectedComponentsSaid : Prop := fnComponentsAreTheStronglyConnectedComponentsRow.holds Try.pinned (OpenSpec.ofChange fnComponentsAreTheStronglyConnectedComponentsSpec)

/-- ITS FALSE NEIGHBOUR: 'it returns false'. Refute it at one input. -/
def fnComponentsAreTheStronglyConnectedComponentsWrong : ChangeSpec := { name := "fnComponentsAreTheStronglyConnectedComponents", fn := fun _ => fun
  | [d1, d2, d3, d4, d5, d6] => { results := [.lit (.bool false)], args := [d1, d2, d3, d4, d5, d6] }
  | _ => none }
def FnComponentsAreTheStronglyConnectedComponentsWrongFalsely : Prop := fnComponentsAreTheStronglyConnectedComponentsRow.holds Try.pinned (OpenSpec.ofChange fnComponentsAreTheStronglyConnectedComponentsWrong)

/-- 'zzlaws_internal_verify_b1.FnComponentsNumberSinksFirst': WHATEVER THE INPUT: true; the input reads as it did. -/
def fnComponentsNumberSinksFirstSpec : ChangeSpec := { name := "fnComponentsNumberSinksFirst", fn := fun _ => fun
  | [d1, d2, d3, d4, d5, d6] => { results := [.lit (.bool true)], args := [d1, d2, d3, d4, d5, d6] }
  | _ => none }
def fnComponentsNumberSinksFirstRow : OpenClaim := { program := "qxb6602859a", sum := "2d8affee937b30e93e8b404121c14c7b1cbba58db72a2b62a6ec57f4528d5794", func := "example.com/concordat/concordat/zzlaws_internal_verify_b1.FnComponentsNumberSinksFirst", spec := "fnComponentsNumberSinksFirst", unfollowed := true, recurses := true, apart := false }
def FnComponentsNumberSinksFirstSaid : Prop := fnComponentsNumberSinksFirstRow.holds Try.pinned (OpenSpec.ofChange fnComponentsNumberSinksFirstSpec)

/-- ITS FALSE NEIGHBOUR: 'it returns false'. Refute it at one input. -/
def fnComponentsNumberSinksFirstWrong : ChangeSpec := { name := "fnComponentsNumberSinksFirst", fn := fun _ => fun
  | [d1, d2, d3, d4, d5, d6] => { results := [.lit (.bool false)], args := [d1, d2, d3, d4, d5, d6] }
  | _ => none }
def FnComponentsNumberSinksFirstWrongFalsely : Prop := fnComponentsNumberSinksFirstRow.holds Try.pinned (OpenSpec.ofChange fnComponentsNumberSinksFirstWrong)

/-- 'zzlaws_internal_verify_b1.FnPathIsAShortestPathInItsComponent': WHATEVER THE INPUT: true; the input reads as it did. -/
def fnPathIsAShortestPathInItsComponentSpec : ChangeSpec := { name := "fnPathIsAShortestPathInItsComponent", fn := fun _ => fun
  | [d1, d2, d3, d4, d5, d6, d7, d8] => { results := [.lit (.bool true)], args := [d1, d2, d3, d4, d5, d6, d7, d8] }
  | _ => none }
def fnPathIsAShortestPathInItsComponentRow : OpenClaim := { program := "qxb6602859a", sum := "2d8affee937b30e93e8b404121c14c7b1cbba58db72a2b62a6ec57f4528d5794", func := "example.com/concordat/concordat/zzlaws_internal_verify_b1.FnPathIsAShortestPathInItsComponent", spec := "fnPathIsAShortestPathInItsComponent", unfollowed := true, recurses := true, apart := false }
def FnPathIsAShortestPathInItsComponentSaid : Prop := fnPathIsAShortestPathInItsComponentRow.holds Try.pinned (OpenSpec.ofChange fnPathIsAShortestPathInItsComponentSpec)

/-- ITS FALSE NEIGHBOUR: 'it returns false'. Refute it at one input. -/
def fnPathIsAShortestPathInItsComponentWrong : ChangeSpec := { name := "fnPathIsAShortestPathInItsComponent", fn := fun _ => fun
  | [d1, d2, d3, d4, d5, d6, d7, d8] => { results := [.lit (.bool false)], args := [d1, d2, d3, d4, d5, d6, d7, d8] }
  | _ => none }
def FnPathIsAShortestPathInItsComponentWrongFalsely : Prop := fnPathIsAShortestPathInItsComponentRow.holds Try.pinned (OpenSpec.ofChange fnPathIsAShortestPathInItsComponentWrong)

/-- 'zzlaws_internal_verify_b1.FnPathLengthsObeyTheTriangleInequality': WHATEVER THE INPUT: true; the input reads as it did. -/
def fnPathLengthsObeyTheTriangleInequalitySpec : ChangeSpec := { name := "fnPathLengthsObeyTheTriangleInequality", fn := fun _ => fun
  | [d1, d2, d3, d4, d5, d6, d7, d8, d9] => { results := [.lit (.bool true)], args := [d1, d2, d3, d4, d5, d6, d7, d8, d9] }
  | _ => none }
def fnPathLengthsObeyTheTriangleInequalityRow : OpenClaim := { program := "qxb6602859a", sum := "2d8affee937b30e93e8b404121c14c7b1cbba58db72a2b62a6ec57f4528d5794", func := "example.com/concordat/concordat/zzlaws_internal_verify_b1.FnPathLengthsObeyTheTriangleInequality", spec := "fnPathLengthsObeyTheTriangleInequality", unfollowed := true, recurses := true, apart := false }
def FnPathLengthsObeyTheTriangleInequalitySaid : Prop := fnPathLengthsObeyTheTriangleInequalityRow.holds Try.pinned (OpenSpec.ofChange fnPathLengthsObeyTheTriangleInequalitySpec)

/-- ITS FALSE NEIGHBOUR: 'it returns false'. Refute it at one input. -/
def fnPathLengthsObeyTheTriangleInequalityWrong : ChangeSpec := { name := "fnPathLengthsObeyTheTriangleInequality", fn := fun _ => fun
  | [d1, d2, d3, d4, d5, d6, d7, d8, d9] => { results := [.lit (.bool false)], args := [d1, d2, d3, d4, d5, d6, d7, d8, d9] }
  | _ => none }
def FnPathLengthsObeyTheTriangleInequalityWrongFalsely : Prop := fnPathLengthsObeyTheTriangleInequalityRow.holds Try.pinned (OpenSpec.ofChange fnPathLengthsObeyTheTriangleInequalityWrong)

/-- 'zzlaws_internal_verify_b1.FnPrecedeAllJoinsExactlyEachReaderToEachAppender': WHATEVER THE INPUT: true; the input reads as it did. -/
def fnPrecedeAllJoinsExactlyEachReaderToEachAppenderSpec : ChangeSpec := { name := "fnPrecedeAllJoinsExactlyEachReaderToEachAppender", fn := fun _ => fun
  | [d1, d2, d3, d4, d5, d6, d7] => { results := [.lit (.bool true)], args := [d1, d2, d3, d4, d5, d6, d7] }
  | _ => none }
def fnPrecedeAllJoinsExactlyEachReaderToEachAppenderRow : OpenClaim := { program := "qxb6602859a", sum := "2d8affee937b30e93e8b404121c14c7b1cbba58db72a2b62a6ec57f4528d5794", func := "example.com/concordat/concordat/zzlaws_internal_verify_b1.FnPrecedeAllJoinsExactlyEachReaderToEachAppender", spec := "fnPrecedeAllJoinsExactlyEachReaderToEachAppender", apart := false }
def FnPrecedeAllJoinsExactlyEachReaderToEachAppenderSaid : Prop := fnPrecedeAllJoinsExactlyEachReaderToEachAppenderRow.holds Try.pinned (OpenSpec.ofChange fnPrecedeAllJoinsExactlyEachReaderToEachAppenderSpec)

/-- ITS FALSE NEIGHBOUR: 'it returns false'. Refute it at one input. -/
def fnPrecedeAllJoinsExactlyEachReaderToEachAppenderWrong : ChangeSpec := { name := "fnPrecedeAllJoinsExactlyEachReaderToEachAppender", fn := fun _ => fun
  | [d1, d2, d3, d4, d5, d6, d7] => { results := [.lit (.bool false)], args := [d1, d2, d3, d4, d5, d6, d7] }
  | _ => none }
def FnPrecedeAllJoinsExactlyEachReaderToEachAppenderWrongFalsely : Prop := fnPrecedeAllJoinsExactlyEachReaderToEachAppenderRow.holds Try.pinned (OpenSpec.ofChange fnPrecedeAllJoinsExactlyEachReaderToEachAppenderWrong)

/-- 'zzlaws_internal_verify_b1.FnPrecedeAllAddsLinearlyManyEdgesAndRefusesEmptyLists': WHATEVER THE INPUT: true; the input reads as it did. -/
def fnPrecedeAllAddsLinearlyManyEdgesAndRefusesEmptyListsSpec : ChangeSpec := { name := "fnPrecedeAllAddsLinearlyManyEdgesAndRefusesEmptyLists", fn := fun _ => fun
  | [d1, d2, d3, d4, d5, d6, d7] => { results := [.lit (.bool true)], args := [d1, d2, d3, d4, d5, d6, d7] }
  | _ => none }
def fnPrecedeAllAddsLinearlyManyEdgesAndRefusesEmptyListsRow : OpenClaim := { program := "qxb6602859a", sum := "2d8affee937b30e93e8b404121c14c7b1cbba58db72a2b62a6ec57f4528d5794", func := "example.com/concordat/concordat/zzlaws_internal_verify_b1.FnPrecedeAllAddsLinearlyManyEdgesAndRefusesEmptyLists", spec := "fnPrecedeAllAddsLinearlyManyEdgesAndRefusesEmptyLists", apart := false }
def FnPrecedeAllAddsLinearlyManyEdgesAndRefusesEmptyListsSaid : Prop := fnPrecedeAllAddsLinearlyManyEdgesAndRefusesEmptyListsRow.holds Try.pinned (OpenSpec.ofChange fnPrecedeAllAddsLinearlyManyEdgesAndRefusesEmptyListsSpec)

/-- ITS FALSE NEIGHBOUR: 'it returns false'. Refute it at one input. -/
def fnPrecedeAllAddsLinearlyManyEdgesAndRefusesEmptyListsWrong : ChangeSpec := { name := "fnPrecedeAllAddsLinearlyManyEdgesAndRefusesEmptyLists", fn := fun _ => fun
  | [d1, d2, d3, d4, d5, d6, d7] => { results := [.lit (.bool false)], args := [d1, d2, d3, d4, d5, d6, d7] }
  | _ => none }
def FnPrecedeAllAddsLinearlyManyEdgesAndRefusesEmptyListsWrongFalsely : Prop := fnPrecedeAllAddsLinearlyManyEdgesAndRefusesEmptyListsRow.holds Try.pinned (OpenSpec.ofChange fnPrecedeAllAddsLinearlyManyEdgesAndRefusesEmptyListsWrong)

end Rows
end Go.Proofs.Qxb6602859a
