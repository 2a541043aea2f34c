/-
  No cell of these rows narrows 'for every input' (looked for: loops, veiled, ifaces, maps, wideKeys, modest, calm, conditions, laid).
  DERIVED. THE GIVEN ROWS OF THIS SEAT. 3 by the template 'for every input the law returns true; each argument reads behind the call as it read before'; 0 by the template 'total and deterministic' (their statements: Qxb6618090aTotals.lean).
  GIVEN WITH THE SEED: the statements are not yours to turn. If you find one false, say at which input.
  Laid BY PROGRAM, IN A SANDBOX (cutbox-rows.mjs): the forced cells as the released guide's own fill.sh prints them over the translation 531b497b035d40c7… (all of the seat's roots in one cut). By AI agents, Wed Nov 11 2026. No macro, syntax, notation, axiom, sorry.
-/
import Derived.Test.Qxb6618090aChecked
import GoSem.Claim
import GoSem.ClaimJoined
import GoSem.ClaimMapViews
import Derived.JoinedTies
import Derived.KernelRfl
namespace Go.Proofs.Qxb6618090a
/- THE CELL 'sum', in the pinned program and in every row, IS THE sha256 OF THE DUMP (.gsa) THAT Qxb6618090aProg.lean LOADS. Nothing in Lean hashes anything: it is a label: what it is worth is what the hold of that sum in a sandbox is worth. -/
noncomputable def Try.pinned : Pinned := { name := "qxb6618090a", sum := "531b497b035d40c7c9a35985816ba6c5efeab63daf58e8df73c9e8edfa887cad", checked := Try.checked }
namespace Rows
def none {H : Type} : Left H := { results := [], args := [] }

/-- 'zzlaws_internal_jsonfile_b1.FnCodeUnitIsTheEscapesHexValue': WHATEVER THE INPUT: true; the input reads as it did. -/
def fnCodeUnitIsTheEscapesHexValueSpec : ChangeSpec := { name := "fnCodeUnitIsTheEscapesHexValue", fn := fun _ => fun
  | [d] => { results := [.lit (.bool true)], args := [d] }
  | _ => none }
def fnCodeUnitIsTheEscapesHexValueRow : OpenClaim := { program := "qxb6618090a", sum := "531b497b035d40c7c9a35985816ba6c5efeab63daf58e8df73c9e8edfa887cad", func := "example.com/interlock/interlock/zzlaws_internal_jsonfile_b1.FnCodeUnitIsTheEscapesHexValue", spec := "fnCodeUnitIsTheEscapesHexValue", apart := false }
def FnCodeUnitIsTheEscapesHexValueSaid : Prop := fnCodeUnitIsTheEscapesHexValueRow.holds Try.pinned (OpenSpec.ofChange fnCodeUnitIsTheEscapesHexValueSpec)

/-- ITS FALSE NEIGHBOUR: 'it returns false'. Refute it at one input. -/
def fnCodeUnitIsTheEscapesHexValueWrong : ChangeSpec := { name := "fnCodeUnitIsTheEscapesHexValue", fn := fun _ => fun
  | [d] => { results := [.lit (.bool false)], args := [d] }
  | _ => none }
def FnCodeUnitIsTheEscapesHexValueWrongFalsely : Prop := fnCodeUnitIsTheEscapesHexValueRow.holds Try.pinned (OpenSpec.ofChange fnCodeUnitIsTheEscapesHexValueWrong)

/-- 'zzlaws_internal_jsonfile_b1.FnCodeUnitReadsOnlyTheFirstSixBytes': WHATEVER THE INPUT: true; the input reads as it did. -/
def fnCodeUnitReadsOnlyTheFirstSixBytesSpec : ChangeSpec := { name := "fnCodeUnitReadsOnlyTheFirstSixBytes", fn := fun _ => fun
  | [d1, d2] => { results := [.lit (.bool true)], args := [d1, d2] }
  | _ => none }
def fnCodeUnitReadsOnlyTheFirstSixBytesRow : OpenClaim := { program := "qxb6618090a", sum := "531b497b035d40c7c9a35985816ba6c5efeab63daf58e8df73c9e8edfa887cad", func := "example.com/interlock/interlock/zzlaws_internal_jsonfile_b1.FnCodeUnitReadsOnlyTheFirstSixBytes", spec := "fnCodeUnitReadsOnlyTheFirstSixBytes", apart := false }
def FnCodeUnitReadsOnlyTheFirstSixBytesSaid : Prop := fnCodeUnitReadsOnlyTheFirstSixBytesRow.holds Try.pinned (OpenSpec.ofChange fnCodeUnitReadsOnlyTheFirstSixBytesSpec)

/-- ITS FALSE NEIGHBOUR: 'it returns false'. Refute it at one input. -/
def fnCodeUnitReadsOnlyTheFirstSixBytesWrong : ChangeSpec := { name := "fnCodeUnitReadsOnlyTheFirstSixBytes", fn := fun _ => fun
  | [d1, d2] => { results := [.lit (.bool false)], args := [d1, d2] }
  | _ => none }
def FnCodeUnitReadsOnlyTheFirstSixBytesWrongFalsely : Prop := fnCodeUnitReadsOnlyTheFirstSixBytesRow.holds Try.pinned (OpenSpec.ofChange fnCodeUnitReadsOnlyTheFirstSixBytesWrong)

/-- 'zzlaws_internal_jsonfile_b1.FnCodeUnitIsItsTwoBytesSideBySide': WHATEVER THE INPUT: true; the input reads as it did. -/
def fnCodeUnitIsItsTwoBytesSideBySideSpec : ChangeSpec := { name := "fnCodeUnitIsItsTwoBytesSideBySide", fn := fun _ => fun
  | [d] => { results := [.lit (.bool true)], args := [d] }
  | _ => none }
def fnCodeUnitIsItsTwoBytesSideBySideRow : OpenClaim := { program := "qxb6618090a", sum := "531b497b035d40c7c9a35985816ba6c5efeab63daf58e8df73c9e8edfa887cad", func := "example.com/interlock/interlock/zzlaws_internal_jsonfile_b1.FnCodeUnitIsItsTwoBytesSideBySide", spec := "fnCodeUnitIsItsTwoBytesSideBySide", apart := false }
def FnCodeUnitIsItsTwoBytesSideBySideSaid : Prop := fnCodeUnitIsItsTwoBytesSideBySideRow.holds Try.pinned (OpenSpec.ofChange fnCodeUnitIsItsTwoBytesSideBySideSpec)

/-- ITS FALSE NEIGHBOUR: 'it returns false'. Refute it at one input. -/
def fnCodeUnitIsItsTwoBytesSideBySideWrong : ChangeSpec := { name := "fnCodeUnitIsItsTwoBytesSideBySide", fn := fun _ => fun
  | [d] => { results := [.lit (.bool false)], args := [d] }
  | _ => none }
def FnCodeUnitIsItsTwoBytesSideBySideWrongFalsely : Prop := fnCodeUnitIsItsTwoBytesSideBySideRow.holds Try.pinned (OpenSpec.ofChange fnCodeUnitIsItsTwoBytesSideBySideWrong)

end Rows
end Go.Proofs.Qxb6618090a
