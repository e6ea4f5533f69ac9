/-
  No cell of these rows narrows 'for every input' (looked for: loops, veiled, ifaces, maps, wideKeys, modest, calm, conditions, laid).
  DERIVED. THE GIVEN ROWS OF THIS SEAT. 2 by the template 'for every input the law returns true; each argument reads behind the call as it read before'; 0 by the template 'total and deterministic' (their statements: Qxb6613416aTotals.lean).
  GIVEN WITH THE SEED: the statements are not yours to turn. If you find one false, say at which input.
  Laid BY PROGRAM, IN A SANDBOX (cutbox-rows.mjs): the forced cells as the released guide's own fill.sh prints them over the translation fe33da619c74c407… (all of the seat's roots in one cut). By AI agents, Wed Nov 11 2026. No macro, syntax, notation, axiom, sorry.
-/
import Derived.Test.Qxb6613416aChecked
import GoSem.Claim
import GoSem.ClaimJoined
import GoSem.ClaimMapViews
import Derived.JoinedTies
import Derived.KernelRfl
namespace Go.Proofs.Qxb6613416a
/- THE CELL 'sum', in the pinned program and in every row, IS THE sha256 OF THE DUMP (.gsa) THAT Qxb6613416aProg.lean LOADS. Nothing in Lean hashes anything: it is a label: what it is worth is what the hold of that sum in a sandbox is worth. -/
noncomputable def Try.pinned : Pinned := { name := "qxb6613416a", sum := "fe33da619c74c407a6ffd5f2d233bbad13b5bf73d5bc8ad83607a2b9430028e7", checked := Try.checked }
namespace Rows
def none {H : Type} : Left H := { results := [], args := [] }

/-- 'zzlaws_internal_record_b1.FnAllGivesEachKeyOnceInFirstPlaceWithLastValue': WHATEVER THE INPUT: true; the input reads as it did. -/
def fnAllGivesEachKeyOnceInFirstPlaceWithLastValueSpec : ChangeSpec := { name := "fnAllGivesEachKeyOnceInFirstPlaceWithLastValue", fn := fun _ => fun
  | [d] => { results := [.lit (.bool true)], args := [d] }
  | _ => none }
def fnAllGivesEachKeyOnceInFirstPlaceWithLastValueRow : OpenClaim := { program := "qxb6613416a", sum := "fe33da619c74c407a6ffd5f2d233bbad13b5bf73d5bc8ad83607a2b9430028e7", func := "example.com/fathomline/fathomline/zzlaws_internal_record_b1.FnAllGivesEachKeyOnceInFirstPlaceWithLastValue", spec := "fnAllGivesEachKeyOnceInFirstPlaceWithLastValue", unfollowed := true, recurses := true, apart := false }
def FnAllGivesEachKeyOnceInFirstPlaceWithLastValueSaid : Prop := fnAllGivesEachKeyOnceInFirstPlaceWithLastValueRow.holds Try.pinned (OpenSpec.ofChange fnAllGivesEachKeyOnceInFirstPlaceWithLastValueSpec)

/-- ITS FALSE NEIGHBOUR: 'it returns false'. Refute it at one input. -/
def fnAllGivesEachKeyOnceInFirstPlaceWithLastValueWrong : ChangeSpec := { name := "fnAllGivesEachKeyOnceInFirstPlaceWithLastValue", fn := fun _ => fun
  | [d] => { results := [.lit (.bool false)], args := [d] }
  | _ => none }
def FnAllGivesEachKeyOnceInFirstPlaceWithLastValueWrongFalsely : Prop := fnAllGivesEachKeyOnceInFirstPlaceWithLastValueRow.holds Try.pinned (OpenSpec.ofChange fnAllGivesEachKeyOnceInFirstPlaceWithLastValueWrong)

/-- 'zzlaws_internal_record_b1.FnAllAfterDeleteKeepsOrderAndStopsAtN': WHATEVER THE INPUT: true; the input reads as it did. -/
def fnAllAfterDeleteKeepsOrderAndStopsAtNSpec : ChangeSpec := { name := "fnAllAfterDeleteKeepsOrderAndStopsAtN", fn := fun _ => fun
  | [d1, d2, d3] => { results := [.lit (.bool true)], args := [d1, d2, d3] }
  | _ => none }
def fnAllAfterDeleteKeepsOrderAndStopsAtNRow : OpenClaim := { program := "qxb6613416a", sum := "fe33da619c74c407a6ffd5f2d233bbad13b5bf73d5bc8ad83607a2b9430028e7", func := "example.com/fathomline/fathomline/zzlaws_internal_record_b1.FnAllAfterDeleteKeepsOrderAndStopsAtN", spec := "fnAllAfterDeleteKeepsOrderAndStopsAtN", unfollowed := true, recurses := true, apart := false }
def FnAllAfterDeleteKeepsOrderAndStopsAtNSaid : Prop := fnAllAfterDeleteKeepsOrderAndStopsAtNRow.holds Try.pinned (OpenSpec.ofChange fnAllAfterDeleteKeepsOrderAndStopsAtNSpec)

/-- ITS FALSE NEIGHBOUR: 'it returns false'. Refute it at one input. -/
def fnAllAfterDeleteKeepsOrderAndStopsAtNWrong : ChangeSpec := { name := "fnAllAfterDeleteKeepsOrderAndStopsAtN", fn := fun _ => fun
  | [d1, d2, d3] => { results := [.lit (.bool false)], args := [d1, d2, d3] }
  | _ => none }
def FnAllAfterDeleteKeepsOrderAndStopsAtNWrongFalsely : Prop := fnAllAfterDeleteKeepsOrderAndStopsAtNRow.holds Try.pinned (OpenSpec.ofChange fnAllAfterDeleteKeepsOrderAndStopsAtNWrong)

end Rows
end Go.Proofs.Qxb6613416a
