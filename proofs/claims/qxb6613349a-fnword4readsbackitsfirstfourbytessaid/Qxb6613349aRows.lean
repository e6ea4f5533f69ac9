/-
  No cell of these rows narrows 'for every input' (looked for: loops, veiled, ifaces, maps, wideKeys, modest, calm, conditions, laid).
  DERIVED. THE GIVEN ROWS OF THIS SEAT. 4 by the template 'for every input the law returns true; each argument reads behind the call as it read before'; 0 by the template 'total and deterministic' (their statements: Qxb6613349aTotals.lean).
  GIVEN WITH THE SEED: the statements are not yours to turn. If you find one false, say at which input.
  Laid BY PROGRAM, IN A SANDBOX (cutbox-rows.mjs): the forced cells as the released guide's own fill.sh prints them over the translation 799f8c2b3dac263a… (all of the seat's roots in one cut). By AI agents, Wed Nov 11 2026. No macro, syntax, notation, axiom, sorry.
-/
import Derived.Test.Qxb6613349aChecked
import GoSem.Claim
import GoSem.ClaimJoined
import GoSem.ClaimMapViews
import Derived.JoinedTies
import Derived.KernelRfl
namespace Go.Proofs.Qxb6613349a
/- THE CELL 'sum', in the pinned program and in every row, IS THE sha256 OF THE DUMP (.gsa) THAT Qxb6613349aProg.lean LOADS. Nothing in Lean hashes anything: it is a label: what it is worth is what the hold of that sum in a sandbox is worth. -/
noncomputable def Try.pinned : Pinned := { name := "qxb6613349a", sum := "799f8c2b3dac263a8b90ef9b4c5a57df513d7861fc84a80b1fc582684da911a3", checked := Try.checked }
namespace Rows
def none {H : Type} : Left H := { results := [], args := [] }

/-- 'zzlaws_root_b1.FnWord4ReadsBackItsFirstFourBytes': WHATEVER THE INPUT: true; the input reads as it did. -/
def fnWord4ReadsBackItsFirstFourBytesSpec : ChangeSpec := { name := "fnWord4ReadsBackItsFirstFourBytes", fn := fun _ => fun
  | [d1, d2] => { results := [.lit (.bool true)], args := [d1, d2] }
  | _ => none }
def fnWord4ReadsBackItsFirstFourBytesRow : OpenClaim := { program := "qxb6613349a", sum := "799f8c2b3dac263a8b90ef9b4c5a57df513d7861fc84a80b1fc582684da911a3", func := "example.com/grantor/grantor/zzlaws_root_b1.FnWord4ReadsBackItsFirstFourBytes", spec := "fnWord4ReadsBackItsFirstFourBytes", apart := false }
def FnWord4ReadsBackItsFirstFourBytesSaid : Prop := fnWord4ReadsBackItsFirstFourBytesRow.holds Try.pinned (OpenSpec.ofChange fnWord4ReadsBackItsFirstFourBytesSpec)

/-- ITS FALSE NEIGHBOUR: 'it returns false'. Refute it at one input. -/
def fnWord4ReadsBackItsFirstFourBytesWrong : ChangeSpec := { name := "fnWord4ReadsBackItsFirstFourBytes", fn := fun _ => fun
  | [d1, d2] => { results := [.lit (.bool false)], args := [d1, d2] }
  | _ => none }
def FnWord4ReadsBackItsFirstFourBytesWrongFalsely : Prop := fnWord4ReadsBackItsFirstFourBytesRow.holds Try.pinned (OpenSpec.ofChange fnWord4ReadsBackItsFirstFourBytesWrong)

/-- 'zzlaws_root_b1.FnWord4EqualExactlyWhenPrefixesEqual': WHATEVER THE INPUT: true; the input reads as it did. -/
def fnWord4EqualExactlyWhenPrefixesEqualSpec : ChangeSpec := { name := "fnWord4EqualExactlyWhenPrefixesEqual", fn := fun _ => fun
  | [d1, d2] => { results := [.lit (.bool true)], args := [d1, d2] }
  | _ => none }
def fnWord4EqualExactlyWhenPrefixesEqualRow : OpenClaim := { program := "qxb6613349a", sum := "799f8c2b3dac263a8b90ef9b4c5a57df513d7861fc84a80b1fc582684da911a3", func := "example.com/grantor/grantor/zzlaws_root_b1.FnWord4EqualExactlyWhenPrefixesEqual", spec := "fnWord4EqualExactlyWhenPrefixesEqual", apart := false }
def FnWord4EqualExactlyWhenPrefixesEqualSaid : Prop := fnWord4EqualExactlyWhenPrefixesEqualRow.holds Try.pinned (OpenSpec.ofChange fnWord4EqualExactlyWhenPrefixesEqualSpec)

/-- ITS FALSE NEIGHBOUR: 'it returns false'. Refute it at one input. -/
def fnWord4EqualExactlyWhenPrefixesEqualWrong : ChangeSpec := { name := "fnWord4EqualExactlyWhenPrefixesEqual", fn := fun _ => fun
  | [d1, d2] => { results := [.lit (.bool false)], args := [d1, d2] }
  | _ => none }
def FnWord4EqualExactlyWhenPrefixesEqualWrongFalsely : Prop := fnWord4EqualExactlyWhenPrefixesEqualRow.holds Try.pinned (OpenSpec.ofChange fnWord4EqualExactlyWhenPrefixesEqualWrong)

/-- 'zzlaws_root_b1.FnProblemsSortedStablyWithLines': WHATEVER THE INPUT: true; the input reads as it did. -/
def fnProblemsSortedStablyWithLinesSpec : ChangeSpec := { name := "fnProblemsSortedStablyWithLines", fn := fun _ => fun
  | [d1, d2, d3] => { results := [.lit (.bool true)], args := [d1, d2, d3] }
  | _ => none }
def fnProblemsSortedStablyWithLinesRow : OpenClaim := { program := "qxb6613349a", sum := "799f8c2b3dac263a8b90ef9b4c5a57df513d7861fc84a80b1fc582684da911a3", func := "example.com/grantor/grantor/zzlaws_root_b1.FnProblemsSortedStablyWithLines", spec := "fnProblemsSortedStablyWithLines", inPlace := ["internal/bytealg.Count", "internal/bytealg.IndexByte", "internal/bytealg.Index"], unfollowed := true, recurses := true, named := ["internal/bytealg.MaxLen"], apart := false }
def FnProblemsSortedStablyWithLinesSaid : Prop := fnProblemsSortedStablyWithLinesRow.holds Try.pinned (OpenSpec.ofChange fnProblemsSortedStablyWithLinesSpec)

/-- ITS FALSE NEIGHBOUR: 'it returns false'. Refute it at one input. -/
def fnProblemsSortedStablyWithLinesWrong : ChangeSpec := { name := "fnProblemsSortedStablyWithLines", fn := fun _ => fun
  | [d1, d2, d3] => { results := [.lit (.bool false)], args := [d1, d2, d3] }
  | _ => none }
def FnProblemsSortedStablyWithLinesWrongFalsely : Prop := fnProblemsSortedStablyWithLinesRow.holds Try.pinned (OpenSpec.ofChange fnProblemsSortedStablyWithLinesWrong)

/-- 'zzlaws_root_b1.FnProblemsIgnoreOrderFound': WHATEVER THE INPUT: true; the input reads as it did. -/
def fnProblemsIgnoreOrderFoundSpec : ChangeSpec := { name := "fnProblemsIgnoreOrderFound", fn := fun _ => fun
  | [d1, d2, d3, d4] => { results := [.lit (.bool true)], args := [d1, d2, d3, d4] }
  | _ => none }
def fnProblemsIgnoreOrderFoundRow : OpenClaim := { program := "qxb6613349a", sum := "799f8c2b3dac263a8b90ef9b4c5a57df513d7861fc84a80b1fc582684da911a3", func := "example.com/grantor/grantor/zzlaws_root_b1.FnProblemsIgnoreOrderFound", spec := "fnProblemsIgnoreOrderFound", inPlace := ["internal/bytealg.Count", "internal/bytealg.IndexByte", "internal/bytealg.Index"], unfollowed := true, recurses := true, named := ["internal/bytealg.MaxLen"], apart := false }
def FnProblemsIgnoreOrderFoundSaid : Prop := fnProblemsIgnoreOrderFoundRow.holds Try.pinned (OpenSpec.ofChange fnProblemsIgnoreOrderFoundSpec)

/-- ITS FALSE NEIGHBOUR: 'it returns false'. Refute it at one input. -/
def fnProblemsIgnoreOrderFoundWrong : ChangeSpec := { name := "fnProblemsIgnoreOrderFound", fn := fun _ => fun
  | [d1, d2, d3, d4] => { results := [.lit (.bool false)], args := [d1, d2, d3, d4] }
  | _ => none }
def FnProblemsIgnoreOrderFoundWrongFalsely : Prop := fnProblemsIgnoreOrderFoundRow.holds Try.pinned (OpenSpec.ofChange fnProblemsIgnoreOrderFoundWrong)

end Rows
end Go.Proofs.Qxb6613349a
