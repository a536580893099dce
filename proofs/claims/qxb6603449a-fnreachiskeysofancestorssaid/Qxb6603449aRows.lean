/-
  No cell of these rows narrows 'for every input' (looked for: loops, veiled, ifaces, maps, wideKeys, modest, calm, conditions, laid).
  DERIVED. THE GIVEN ROWS OF THIS SEAT. 6 by the template 'for every input the law returns true; each argument reads behind the call as it read before'; 0 by the template 'total and deterministic' (their statements: Qxb6603449aTotals.lean).
  GIVEN WITH THE SEED: the statements are not yours to turn. If you find one false, say at which input.
  Laid BY PROGRAM, IN A SANDBOX (cutbox-rows.mjs): the forced cells as the released guide's own fill.sh prints them over the translation 8dc4c4e34e6a66f5… (all of the seat's roots in one cut). By AI agents, Wed Nov 11 2026. No macro, syntax, notation, axiom, sorry.
-/
import Derived.Test.Qxb6603449aChecked
import GoSem.Claim
import GoSem.ClaimJoined
import GoSem.ClaimMapViews
import Derived.JoinedTies
import Derived.KernelRfl
namespace Go.Proofs.Qxb6603449a
/- THE CELL 'sum', in the pinned program and in every row, IS THE sha256 OF THE DUMP (.gsa) THAT Qxb6603449aProg.lean LOADS. Nothing in Lean hashes anything: it is a label: what it is worth is what the hold of that sum in a sandbox is worth. -/
noncomputable def Try.pinned : Pinned := { name := "qxb6603449a", sum := "8dc4c4e34e6a66f5780624dfe32496310fdc606d41dfa70711f018a2cebdaf66", checked := Try.checked }
namespace Rows
def none {H : Type} : Left H := { results := [], args := [] }

/-- 'zzlaws_root_b1.FnPrintableASCIIIsEveryByteInRange': WHATEVER THE INPUT: true; the input reads as it did. -/
def fnPrintableASCIIIsEveryByteInRangeSpec : ChangeSpec := { name := "fnPrintableASCIIIsEveryByteInRange", fn := fun _ => fun
  | [d] => { results := [.lit (.bool true)], args := [d] }
  | _ => none }
def fnPrintableASCIIIsEveryByteInRangeRow : OpenClaim := { program := "qxb6603449a", sum := "8dc4c4e34e6a66f5780624dfe32496310fdc606d41dfa70711f018a2cebdaf66", func := "example.com/grantor/grantor/zzlaws_root_b1.FnPrintableASCIIIsEveryByteInRange", spec := "fnPrintableASCIIIsEveryByteInRange", unfollowed := true, recurses := true, apart := false }
def FnPrintableASCIIIsEveryByteInRangeSaid : Prop := fnPrintableASCIIIsEveryByteInRangeRow.holds Try.pinned (OpenSpec.ofChange fnPrintableASCIIIsEveryByteInRangeSpec)

/-- ITS FALSE NEIGHBOUR: 'it returns false'. Refute it at one input. -/
def fnPrintableASCIIIsEveryByteInRangeWrong : ChangeSpec := { name := "fnPrintableASCIIIsEveryByteInRange", fn := fun _ => fun
  | [d] => { results := [.lit (.bool false)], args := [d] }
  | _ => none }
def FnPrintableASCIIIsEveryByteInRangeWrongFalsely : Prop := fnPrintableASCIIIsEveryByteInRangeRow.holds Try.pinned (OpenSpec.ofChange fnPrintableASCIIIsEveryByteInRangeWrong)

/-- 'zzlaws_root_b1.FnPrintableASCIIOverConcatenation': WHATEVER THE INPUT: true; the input reads as it did. -/
def fnPrintableASCIIOverConcatenationSpec : ChangeSpec := { name := "fnPrintableASCIIOverConcatenation", fn := fun _ => fun
  | [d1, d2] => { results := [.lit (.bool true)], args := [d1, d2] }
  | _ => none }
def fnPrintableASCIIOverConcatenationRow : OpenClaim := { program := "qxb6603449a", sum := "8dc4c4e34e6a66f5780624dfe32496310fdc606d41dfa70711f018a2cebdaf66", func := "example.com/grantor/grantor/zzlaws_root_b1.FnPrintableASCIIOverConcatenation", spec := "fnPrintableASCIIOverConcatenation", unfollowed := true, recurses := true, apart := false }
def FnPrintableASCIIOverConcatenationSaid : Prop := fnPrintableASCIIOverConcatenationRow.holds Try.pinned (OpenSpec.ofChange fnPrintableASCIIOverConcatenationSpec)

/-- ITS FALSE NEIGHBOUR: 'it returns false'. Refute it at one input. -/
def fnPrintableASCIIOverConcatenationWrong : ChangeSpec := { name := "fnPrintableASCIIOverConcatenation", fn := fun _ => fun
  | [d1, d2] => { results := [.lit (.bool false)], args := [d1, d2] }
  | _ => none }
def FnPrintableASCIIOverConcatenationWrongFalsely : Prop := fnPrintableASCIIOverConcatenationRow.holds Try.pinned (OpenSpec.ofChange fnPrintableASCIIOverConcatenationWrong)

/-- 'zzlaws_root_b1.FnBelowIsTransitiveClosure': WHATEVER THE INPUT: true; the input reads as it did. -/
def fnBelowIsTransitiveClosureSpec : ChangeSpec := { name := "fnBelowIsTransitiveClosure", fn := fun _ => fun
  | [d1, d2, d3] => { results := [.lit (.bool true)], args := [d1, d2, d3] }
  | _ => none }
def fnBelowIsTransitiveClosureRow : OpenClaim := { program := "qxb6603449a", sum := "8dc4c4e34e6a66f5780624dfe32496310fdc606d41dfa70711f018a2cebdaf66", func := "example.com/grantor/grantor/zzlaws_root_b1.FnBelowIsTransitiveClosure", spec := "fnBelowIsTransitiveClosure", apart := false }
def FnBelowIsTransitiveClosureSaid : Prop := fnBelowIsTransitiveClosureRow.holds Try.pinned (OpenSpec.ofChange fnBelowIsTransitiveClosureSpec)

/-- ITS FALSE NEIGHBOUR: 'it returns false'. Refute it at one input. -/
def fnBelowIsTransitiveClosureWrong : ChangeSpec := { name := "fnBelowIsTransitiveClosure", fn := fun _ => fun
  | [d1, d2, d3] => { results := [.lit (.bool false)], args := [d1, d2, d3] }
  | _ => none }
def FnBelowIsTransitiveClosureWrongFalsely : Prop := fnBelowIsTransitiveClosureRow.holds Try.pinned (OpenSpec.ofChange fnBelowIsTransitiveClosureWrong)

/-- 'zzlaws_root_b1.FnBelowInheritsNestedGroups': WHATEVER THE INPUT: true; the input reads as it did. -/
def fnBelowInheritsNestedGroupsSpec : ChangeSpec := { name := "fnBelowInheritsNestedGroups", fn := fun _ => fun
  | [d1, d2, d3] => { results := [.lit (.bool true)], args := [d1, d2, d3] }
  | _ => none }
def fnBelowInheritsNestedGroupsRow : OpenClaim := { program := "qxb6603449a", sum := "8dc4c4e34e6a66f5780624dfe32496310fdc606d41dfa70711f018a2cebdaf66", func := "example.com/grantor/grantor/zzlaws_root_b1.FnBelowInheritsNestedGroups", spec := "fnBelowInheritsNestedGroups", apart := false }
def FnBelowInheritsNestedGroupsSaid : Prop := fnBelowInheritsNestedGroupsRow.holds Try.pinned (OpenSpec.ofChange fnBelowInheritsNestedGroupsSpec)

/-- ITS FALSE NEIGHBOUR: 'it returns false'. Refute it at one input. -/
def fnBelowInheritsNestedGroupsWrong : ChangeSpec := { name := "fnBelowInheritsNestedGroups", fn := fun _ => fun
  | [d1, d2, d3] => { results := [.lit (.bool false)], args := [d1, d2, d3] }
  | _ => none }
def FnBelowInheritsNestedGroupsWrongFalsely : Prop := fnBelowInheritsNestedGroupsRow.holds Try.pinned (OpenSpec.ofChange fnBelowInheritsNestedGroupsWrong)

/-- 'zzlaws_root_b1.FnReachIsKeysOfAncestors': WHATEVER THE INPUT: true; the input reads as it did. -/
def fnReachIsKeysOfAncestorsSpec : ChangeSpec := { name := "fnReachIsKeysOfAncestors", fn := fun _ => fun
  | [d1, d2, d3, d4] => { results := [.lit (.bool true)], args := [d1, d2, d3, d4] }
  | _ => none }
def fnReachIsKeysOfAncestorsRow : OpenClaim := { program := "qxb6603449a", sum := "8dc4c4e34e6a66f5780624dfe32496310fdc606d41dfa70711f018a2cebdaf66", func := "example.com/grantor/grantor/zzlaws_root_b1.FnReachIsKeysOfAncestors", spec := "fnReachIsKeysOfAncestors", recurses := true, apart := false }
def FnReachIsKeysOfAncestorsSaid : Prop := fnReachIsKeysOfAncestorsRow.holds Try.pinned (OpenSpec.ofChange fnReachIsKeysOfAncestorsSpec)

/-- ITS FALSE NEIGHBOUR: 'it returns false'. Refute it at one input. -/
def fnReachIsKeysOfAncestorsWrong : ChangeSpec := { name := "fnReachIsKeysOfAncestors", fn := fun _ => fun
  | [d1, d2, d3, d4] => { results := [.lit (.bool false)], args := [d1, d2, d3, d4] }
  | _ => none }
def FnReachIsKeysOfAncestorsWrongFalsely : Prop := fnReachIsKeysOfAncestorsRow.holds Try.pinned (OpenSpec.ofChange fnReachIsKeysOfAncestorsWrong)

/-- 'zzlaws_root_b1.FnReachRemembersRightly': WHATEVER THE INPUT: true; the input reads as it did. -/
def fnReachRemembersRightlySpec : ChangeSpec := { name := "fnReachRemembersRightly", fn := fun _ => fun
  | [d1, d2, d3, d4] => { results := [.lit (.bool true)], args := [d1, d2, d3, d4] }
  | _ => none }
def fnReachRemembersRightlyRow : OpenClaim := { program := "qxb6603449a", sum := "8dc4c4e34e6a66f5780624dfe32496310fdc606d41dfa70711f018a2cebdaf66", func := "example.com/grantor/grantor/zzlaws_root_b1.FnReachRemembersRightly", spec := "fnReachRemembersRightly", recurses := true, apart := false }
def FnReachRemembersRightlySaid : Prop := fnReachRemembersRightlyRow.holds Try.pinned (OpenSpec.ofChange fnReachRemembersRightlySpec)

/-- ITS FALSE NEIGHBOUR: 'it returns false'. Refute it at one input. -/
def fnReachRemembersRightlyWrong : ChangeSpec := { name := "fnReachRemembersRightly", fn := fun _ => fun
  | [d1, d2, d3, d4] => { results := [.lit (.bool false)], args := [d1, d2, d3, d4] }
  | _ => none }
def FnReachRemembersRightlyWrongFalsely : Prop := fnReachRemembersRightlyRow.holds Try.pinned (OpenSpec.ofChange fnReachRemembersRightlyWrong)

end Rows
end Go.Proofs.Qxb6603449a
