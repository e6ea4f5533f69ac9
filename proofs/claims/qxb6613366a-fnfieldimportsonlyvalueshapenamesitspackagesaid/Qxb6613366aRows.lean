/-
  No cell of these rows narrows 'for every input' (looked for: loops, veiled, ifaces, maps, wideKeys, modest, calm, conditions, laid).
  DERIVED. THE GIVEN ROWS OF THIS SEAT. 2 by the template 'for every input the law returns true; each argument reads behind the call as it read before'; 0 by the template 'total and deterministic' (their statements: Qxb6613366aTotals.lean).
  GIVEN WITH THE SEED: the statements are not yours to turn. If you find one false, say at which input.
  Laid BY PROGRAM, IN A SANDBOX (cutbox-rows.mjs): the forced cells as the released guide's own fill.sh prints them over the translation 78d0de20fb13a745… (all of the seat's roots in one cut). By AI agents, Wed Nov 11 2026. No macro, syntax, notation, axiom, sorry.
-/
import Derived.Test.Qxb6613366aChecked
import GoSem.Claim
import GoSem.ClaimJoined
import GoSem.ClaimMapViews
import Derived.JoinedTies
import Derived.KernelRfl
namespace Go.Proofs.Qxb6613366a
/- THE CELL 'sum', in the pinned program and in every row, IS THE sha256 OF THE DUMP (.gsa) THAT Qxb6613366aProg.lean LOADS. Nothing in Lean hashes anything: it is a label: what it is worth is what the hold of that sum in a sandbox is worth. -/
noncomputable def Try.pinned : Pinned := { name := "qxb6613366a", sum := "78d0de20fb13a745d291ddbdf5e214c48a090c53df2b2036be411bb0de5bb485", checked := Try.checked }
namespace Rows
def none {H : Type} : Left H := { results := [], args := [] }

/-- 'zzlaws_internal_generator_b1.FnBoolLiteralAcceptsExactlyTheTwoWords': WHATEVER THE INPUT: true; the input reads as it did. -/
def fnBoolLiteralAcceptsExactlyTheTwoWordsSpec : ChangeSpec := { name := "fnBoolLiteralAcceptsExactlyTheTwoWords", fn := fun _ => fun
  | [d1, d2] => { results := [.lit (.bool true)], args := [d1, d2] }
  | _ => none }
def fnBoolLiteralAcceptsExactlyTheTwoWordsRow : OpenClaim := { program := "qxb6613366a", sum := "78d0de20fb13a745d291ddbdf5e214c48a090c53df2b2036be411bb0de5bb485", func := "example.com/fieldwire/fieldwire/zzlaws_internal_generator_b1.FnBoolLiteralAcceptsExactlyTheTwoWords", spec := "fnBoolLiteralAcceptsExactlyTheTwoWords", apart := false }
def FnBoolLiteralAcceptsExactlyTheTwoWordsSaid : Prop := fnBoolLiteralAcceptsExactlyTheTwoWordsRow.holds Try.pinned (OpenSpec.ofChange fnBoolLiteralAcceptsExactlyTheTwoWordsSpec)

/-- ITS FALSE NEIGHBOUR: 'it returns false'. Refute it at one input. -/
def fnBoolLiteralAcceptsExactlyTheTwoWordsWrong : ChangeSpec := { name := "fnBoolLiteralAcceptsExactlyTheTwoWords", fn := fun _ => fun
  | [d1, d2] => { results := [.lit (.bool false)], args := [d1, d2] }
  | _ => none }
def FnBoolLiteralAcceptsExactlyTheTwoWordsWrongFalsely : Prop := fnBoolLiteralAcceptsExactlyTheTwoWordsRow.holds Try.pinned (OpenSpec.ofChange fnBoolLiteralAcceptsExactlyTheTwoWordsWrong)

/-- 'zzlaws_internal_generator_b1.FnFieldImportsOnlyValueShapeNamesItsPackage': WHATEVER THE INPUT: true; the input reads as it did. -/
def fnFieldImportsOnlyValueShapeNamesItsPackageSpec : ChangeSpec := { name := "fnFieldImportsOnlyValueShapeNamesItsPackage", fn := fun _ => fun
  | [d1, d2] => { results := [.lit (.bool true)], args := [d1, d2] }
  | _ => none }
def fnFieldImportsOnlyValueShapeNamesItsPackageRow : OpenClaim := { program := "qxb6613366a", sum := "78d0de20fb13a745d291ddbdf5e214c48a090c53df2b2036be411bb0de5bb485", func := "example.com/fieldwire/fieldwire/zzlaws_internal_generator_b1.FnFieldImportsOnlyValueShapeNamesItsPackage", spec := "fnFieldImportsOnlyValueShapeNamesItsPackage", apart := false }
def FnFieldImportsOnlyValueShapeNamesItsPackageSaid : Prop := fnFieldImportsOnlyValueShapeNamesItsPackageRow.holds Try.pinned (OpenSpec.ofChange fnFieldImportsOnlyValueShapeNamesItsPackageSpec)

/-- ITS FALSE NEIGHBOUR: 'it returns false'. Refute it at one input. -/
def fnFieldImportsOnlyValueShapeNamesItsPackageWrong : ChangeSpec := { name := "fnFieldImportsOnlyValueShapeNamesItsPackage", fn := fun _ => fun
  | [d1, d2] => { results := [.lit (.bool false)], args := [d1, d2] }
  | _ => none }
def FnFieldImportsOnlyValueShapeNamesItsPackageWrongFalsely : Prop := fnFieldImportsOnlyValueShapeNamesItsPackageRow.holds Try.pinned (OpenSpec.ofChange fnFieldImportsOnlyValueShapeNamesItsPackageWrong)

end Rows
end Go.Proofs.Qxb6613366a
