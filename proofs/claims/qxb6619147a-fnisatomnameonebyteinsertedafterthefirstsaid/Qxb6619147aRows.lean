/-
  No cell of these rows narrows 'for every input' (looked for: loops, veiled, ifaces, maps, wideKeys, modest, calm, conditions, laid).
  DERIVED. THE GIVEN ROWS OF THIS SEAT. 2 by the template 'for every input the law returns true; each argument reads behind the call as it read before'; 0 by the template 'total and deterministic' (their statements: Qxb6619147aTotals.lean).
  GIVEN WITH THE SEED: the statements are not yours to turn. If you find one false, say at which input.
  Laid BY PROGRAM, IN A SANDBOX (cutbox-rows.mjs): the forced cells as the released guide's own fill.sh prints them over the translation 788ed96e804d2da2… (all of the seat's roots in one cut). By AI agents, Wed Nov 11 2026. No macro, syntax, notation, axiom, sorry.
-/
import Derived.Test.Qxb6619147aChecked
import GoSem.Claim
import GoSem.ClaimJoined
import GoSem.ClaimMapViews
import Derived.JoinedTies
import Derived.KernelRfl
namespace Go.Proofs.Qxb6619147a
/- THE CELL 'sum', in the pinned program and in every row, IS THE sha256 OF THE DUMP (.gsa) THAT Qxb6619147aProg.lean LOADS. Nothing in Lean hashes anything: it is a label: what it is worth is what the hold of that sum in a sandbox is worth. -/
noncomputable def Try.pinned : Pinned := { name := "qxb6619147a", sum := "788ed96e804d2da2c6f35e3327d53e3a4d73153885baed84e14b0c4d0b095c1d", checked := Try.checked }
namespace Rows
def none {H : Type} : Left H := { results := [], args := [] }

/-- 'zzlaws_internal_composite_b1.FnIsAtomNameJoinAtAnyCut': WHATEVER THE INPUT: true; the input reads as it did. -/
def fnIsAtomNameJoinAtAnyCutSpec : ChangeSpec := { name := "fnIsAtomNameJoinAtAnyCut", fn := fun _ => fun
  | [d1, d2] => { results := [.lit (.bool true)], args := [d1, d2] }
  | _ => none }
def fnIsAtomNameJoinAtAnyCutRow : OpenClaim := { program := "qxb6619147a", sum := "788ed96e804d2da2c6f35e3327d53e3a4d73153885baed84e14b0c4d0b095c1d", func := "example.com/peerlattice/peerlattice/zzlaws_internal_composite_b1.FnIsAtomNameJoinAtAnyCut", spec := "fnIsAtomNameJoinAtAnyCut", apart := false }
def FnIsAtomNameJoinAtAnyCutSaid : Prop := fnIsAtomNameJoinAtAnyCutRow.holds Try.pinned (OpenSpec.ofChange fnIsAtomNameJoinAtAnyCutSpec)

/-- ITS FALSE NEIGHBOUR: 'it returns false'. Refute it at one input. -/
def fnIsAtomNameJoinAtAnyCutWrong : ChangeSpec := { name := "fnIsAtomNameJoinAtAnyCut", fn := fun _ => fun
  | [d1, d2] => { results := [.lit (.bool false)], args := [d1, d2] }
  | _ => none }
def FnIsAtomNameJoinAtAnyCutWrongFalsely : Prop := fnIsAtomNameJoinAtAnyCutRow.holds Try.pinned (OpenSpec.ofChange fnIsAtomNameJoinAtAnyCutWrong)

/-- 'zzlaws_internal_composite_b1.FnIsAtomNameOneByteInsertedAfterTheFirst': WHATEVER THE INPUT: true; the input reads as it did. -/
def fnIsAtomNameOneByteInsertedAfterTheFirstSpec : ChangeSpec := { name := "fnIsAtomNameOneByteInsertedAfterTheFirst", fn := fun _ => fun
  | [d1, d2, d3] => { results := [.lit (.bool true)], args := [d1, d2, d3] }
  | _ => none }
def fnIsAtomNameOneByteInsertedAfterTheFirstRow : OpenClaim := { program := "qxb6619147a", sum := "788ed96e804d2da2c6f35e3327d53e3a4d73153885baed84e14b0c4d0b095c1d", func := "example.com/peerlattice/peerlattice/zzlaws_internal_composite_b1.FnIsAtomNameOneByteInsertedAfterTheFirst", spec := "fnIsAtomNameOneByteInsertedAfterTheFirst", apart := false }
def FnIsAtomNameOneByteInsertedAfterTheFirstSaid : Prop := fnIsAtomNameOneByteInsertedAfterTheFirstRow.holds Try.pinned (OpenSpec.ofChange fnIsAtomNameOneByteInsertedAfterTheFirstSpec)

/-- ITS FALSE NEIGHBOUR: 'it returns false'. Refute it at one input. -/
def fnIsAtomNameOneByteInsertedAfterTheFirstWrong : ChangeSpec := { name := "fnIsAtomNameOneByteInsertedAfterTheFirst", fn := fun _ => fun
  | [d1, d2, d3] => { results := [.lit (.bool false)], args := [d1, d2, d3] }
  | _ => none }
def FnIsAtomNameOneByteInsertedAfterTheFirstWrongFalsely : Prop := fnIsAtomNameOneByteInsertedAfterTheFirstRow.holds Try.pinned (OpenSpec.ofChange fnIsAtomNameOneByteInsertedAfterTheFirstWrong)

end Rows
end Go.Proofs.Qxb6619147a
