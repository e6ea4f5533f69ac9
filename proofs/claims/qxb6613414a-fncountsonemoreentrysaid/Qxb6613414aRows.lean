/-
  No cell of these rows narrows 'for every input' (looked for: loops, veiled, ifaces, maps, wideKeys, modest, calm, conditions, laid).
  DERIVED. THE GIVEN ROWS OF THIS SEAT. 1 by the template 'for every input the law returns true; each argument reads behind the call as it read before'; 0 by the template 'total and deterministic' (their statements: Qxb6613414aTotals.lean).
  GIVEN WITH THE SEED: the statements are not yours to turn. If you find one false, say at which input.
  Laid BY PROGRAM, IN A SANDBOX (cutbox-rows.mjs): the forced cells as the released guide's own fill.sh prints them over the translation 1e7677aedbcf772a… (all of the seat's roots in one cut). By AI agents, Wed Nov 11 2026. No macro, syntax, notation, axiom, sorry.
-/
import Derived.Test.Qxb6613414aChecked
import GoSem.Claim
import GoSem.ClaimJoined
import GoSem.ClaimMapViews
import Derived.JoinedTies
import Derived.KernelRfl
namespace Go.Proofs.Qxb6613414a
/- THE CELL 'sum', in the pinned program and in every row, IS THE sha256 OF THE DUMP (.gsa) THAT Qxb6613414aProg.lean LOADS. Nothing in Lean hashes anything: it is a label: what it is worth is what the hold of that sum in a sandbox is worth. -/
noncomputable def Try.pinned : Pinned := { name := "qxb6613414a", sum := "1e7677aedbcf772aabc4d5a2b9a03252c1c0a351a143a8fac078df1c406f6817", checked := Try.checked }
namespace Rows
def none {H : Type} : Left H := { results := [], args := [] }

/-- 'zzlaws_internal_importer_b1.FnCountsOneMoreEntry': WHATEVER THE INPUT: true; the input reads as it did. -/
def fnCountsOneMoreEntrySpec : ChangeSpec := { name := "fnCountsOneMoreEntry", fn := fun _ => fun
  | [d1, d2] => { results := [.lit (.bool true)], args := [d1, d2] }
  | _ => none }
def fnCountsOneMoreEntryRow : OpenClaim := { program := "qxb6613414a", sum := "1e7677aedbcf772aabc4d5a2b9a03252c1c0a351a143a8fac078df1c406f6817", func := "example.com/grantd/grantd/zzlaws_internal_importer_b1.FnCountsOneMoreEntry", spec := "fnCountsOneMoreEntry", unfollowed := true, recurses := true, apart := false }
def FnCountsOneMoreEntrySaid : Prop := fnCountsOneMoreEntryRow.holds Try.pinned (OpenSpec.ofChange fnCountsOneMoreEntrySpec)

/-- ITS FALSE NEIGHBOUR: 'it returns false'. Refute it at one input. -/
def fnCountsOneMoreEntryWrong : ChangeSpec := { name := "fnCountsOneMoreEntry", fn := fun _ => fun
  | [d1, d2] => { results := [.lit (.bool false)], args := [d1, d2] }
  | _ => none }
def FnCountsOneMoreEntryWrongFalsely : Prop := fnCountsOneMoreEntryRow.holds Try.pinned (OpenSpec.ofChange fnCountsOneMoreEntryWrong)

end Rows
end Go.Proofs.Qxb6613414a
