/-
  No cell of these rows narrows 'for every input' (looked for: loops, veiled, ifaces, maps, wideKeys, modest, calm, conditions, laid).
  DERIVED. THE GIVEN ROWS OF THIS SEAT. 2 by the template 'for every input the law returns true; each argument reads behind the call as it read before'; 0 by the template 'total and deterministic' (their statements: Qxb6002908aTotals.lean).
  GIVEN WITH THE SEED: the statements are not yours to turn. If you find one false, say at which input.
  Laid BY PROGRAM, IN A SANDBOX (cutbox-rows.mjs): the forced cells as the released guide's own fill.sh prints them over the translation 292962858939f16a… (all of the seat's roots in one cut). By AI agents, Wed Nov 11 2026. No macro, syntax, notation, axiom, sorry.
-/
import Derived.Test.Qxb6002908aChecked
import GoSem.Claim
import GoSem.ClaimJoined
import GoSem.ClaimMapViews
import Derived.JoinedTies
import Derived.KernelRfl
namespace Go.Proofs.Qxb6002908a
/- THE CELL 'sum', in the pinned program and in every row, IS THE sha256 OF THE DUMP (.gsa) THAT Qxb6002908aProg.lean LOADS. Nothing in Lean hashes anything: it is a label: what it is worth is what the hold of that sum in a sandbox is worth. -/
noncomputable def Try.pinned : Pinned := { name := "qxb6002908a", sum := "292962858939f16afb6ad79465789932fb1179c38eec4971c5dc75ce9a22c667", checked := Try.checked }
namespace Rows
def none {H : Type} : Left H := { results := [], args := [] }

/-- 'zzlaws_root_b1.FnHexDigitMatchesDigitTables': WHATEVER THE INPUT: true; the input reads as it did. -/
def fnHexDigitMatchesDigitTablesSpec : ChangeSpec := { name := "fnHexDigitMatchesDigitTables", fn := fun _ => fun
  | [d] => { results := [.lit (.bool true)], args := [d] }
  | _ => none }
def fnHexDigitMatchesDigitTablesRow : OpenClaim := { program := "qxb6002908a", sum := "292962858939f16afb6ad79465789932fb1179c38eec4971c5dc75ce9a22c667", func := "example.com/wait-or-fail/wait-or-fail/zzlaws_root_b1.FnHexDigitMatchesDigitTables", spec := "fnHexDigitMatchesDigitTables", apart := false }
def FnHexDigitMatchesDigitTablesSaid : Prop := fnHexDigitMatchesDigitTablesRow.holds Try.pinned (OpenSpec.ofChange fnHexDigitMatchesDigitTablesSpec)

/-- ITS FALSE NEIGHBOUR: 'it returns false'. Refute it at one input. -/
def fnHexDigitMatchesDigitTablesWrong : ChangeSpec := { name := "fnHexDigitMatchesDigitTables", fn := fun _ => fun
  | [d] => { results := [.lit (.bool false)], args := [d] }
  | _ => none }
def FnHexDigitMatchesDigitTablesWrongFalsely : Prop := fnHexDigitMatchesDigitTablesRow.holds Try.pinned (OpenSpec.ofChange fnHexDigitMatchesDigitTablesWrong)

/-- 'zzlaws_root_b1.FnFieldGathersDataValues': WHATEVER THE INPUT: true; the input reads as it did. -/
def fnFieldGathersDataValuesSpec : ChangeSpec := { name := "fnFieldGathersDataValues", fn := fun _ => fun
  | [d] => { results := [.lit (.bool true)], args := [d] }
  | _ => none }
def fnFieldGathersDataValuesRow : OpenClaim := { program := "qxb6002908a", sum := "292962858939f16afb6ad79465789932fb1179c38eec4971c5dc75ce9a22c667", func := "example.com/wait-or-fail/wait-or-fail/zzlaws_root_b1.FnFieldGathersDataValues", spec := "fnFieldGathersDataValues", inPlace := ["internal/bytealg.IndexByte", "internal/bytealg.Index"], named := ["internal/bytealg.MaxLen"], apart := false }
def FnFieldGathersDataValuesSaid : Prop := fnFieldGathersDataValuesRow.holds Try.pinned (OpenSpec.ofChange fnFieldGathersDataValuesSpec)

/-- ITS FALSE NEIGHBOUR: 'it returns false'. Refute it at one input. -/
def fnFieldGathersDataValuesWrong : ChangeSpec := { name := "fnFieldGathersDataValues", fn := fun _ => fun
  | [d] => { results := [.lit (.bool false)], args := [d] }
  | _ => none }
def FnFieldGathersDataValuesWrongFalsely : Prop := fnFieldGathersDataValuesRow.holds Try.pinned (OpenSpec.ofChange fnFieldGathersDataValuesWrong)

end Rows
end Go.Proofs.Qxb6002908a
