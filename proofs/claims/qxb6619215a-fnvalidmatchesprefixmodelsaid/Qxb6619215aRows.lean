/-
  No cell of these rows narrows 'for every input' (looked for: loops, veiled, ifaces, maps, wideKeys, modest, calm, conditions, laid).
  DERIVED. THE GIVEN ROWS OF THIS SEAT. 3 by the template 'for every input the law returns true; each argument reads behind the call as it read before'; 0 by the template 'total and deterministic' (their statements: Qxb6619215aTotals.lean).
  GIVEN WITH THE SEED: the statements are not yours to turn. If you find one false, say at which input.
  Laid BY PROGRAM, IN A SANDBOX (cutbox-rows.mjs): the forced cells as the released guide's own fill.sh prints them over the translation 8c8d70d5e20e61b4… (all of the seat's roots in one cut). By AI agents, Wed Nov 11 2026. No macro, syntax, notation, axiom, sorry.
-/
import Derived.Test.Qxb6619215aChecked
import GoSem.Claim
import GoSem.ClaimJoined
import GoSem.ClaimMapViews
import Derived.JoinedTies
import Derived.KernelRfl
namespace Go.Proofs.Qxb6619215a
/- THE CELL 'sum', in the pinned program and in every row, IS THE sha256 OF THE DUMP (.gsa) THAT Qxb6619215aProg.lean LOADS. Nothing in Lean hashes anything: it is a label: what it is worth is what the hold of that sum in a sandbox is worth. -/
noncomputable def Try.pinned : Pinned := { name := "qxb6619215a", sum := "8c8d70d5e20e61b4ab7fe4d8f83649e0de4f382154e0c14e197c27154ef8c65d", checked := Try.checked }
namespace Rows
def none {H : Type} : Left H := { results := [], args := [] }

/-- 'zzlaws_internal_names_b1.FnValidMatchesPrefixModel': WHATEVER THE INPUT: true; the input reads as it did. -/
def fnValidMatchesPrefixModelSpec : ChangeSpec := { name := "fnValidMatchesPrefixModel", fn := fun _ => fun
  | [d] => { results := [.lit (.bool true)], args := [d] }
  | _ => none }
def fnValidMatchesPrefixModelRow : OpenClaim := { program := "qxb6619215a", sum := "8c8d70d5e20e61b4ab7fe4d8f83649e0de4f382154e0c14e197c27154ef8c65d", func := "example.com/skirnir/skirnir/zzlaws_internal_names_b1.FnValidMatchesPrefixModel", spec := "fnValidMatchesPrefixModel", apart := false }
def FnValidMatchesPrefixModelSaid : Prop := fnValidMatchesPrefixModelRow.holds Try.pinned (OpenSpec.ofChange fnValidMatchesPrefixModelSpec)

/-- ITS FALSE NEIGHBOUR: 'it returns false'. Refute it at one input. -/
def fnValidMatchesPrefixModelWrong : ChangeSpec := { name := "fnValidMatchesPrefixModel", fn := fun _ => fun
  | [d] => { results := [.lit (.bool false)], args := [d] }
  | _ => none }
def FnValidMatchesPrefixModelWrongFalsely : Prop := fnValidMatchesPrefixModelRow.holds Try.pinned (OpenSpec.ofChange fnValidMatchesPrefixModelWrong)

/-- 'zzlaws_internal_names_b1.FnValidEphemeralSuffix': WHATEVER THE INPUT: true; the input reads as it did. -/
def fnValidEphemeralSuffixSpec : ChangeSpec := { name := "fnValidEphemeralSuffix", fn := fun _ => fun
  | [d] => { results := [.lit (.bool true)], args := [d] }
  | _ => none }
def fnValidEphemeralSuffixRow : OpenClaim := { program := "qxb6619215a", sum := "8c8d70d5e20e61b4ab7fe4d8f83649e0de4f382154e0c14e197c27154ef8c65d", func := "example.com/skirnir/skirnir/zzlaws_internal_names_b1.FnValidEphemeralSuffix", spec := "fnValidEphemeralSuffix", apart := false }
def FnValidEphemeralSuffixSaid : Prop := fnValidEphemeralSuffixRow.holds Try.pinned (OpenSpec.ofChange fnValidEphemeralSuffixSpec)

/-- ITS FALSE NEIGHBOUR: 'it returns false'. Refute it at one input. -/
def fnValidEphemeralSuffixWrong : ChangeSpec := { name := "fnValidEphemeralSuffix", fn := fun _ => fun
  | [d] => { results := [.lit (.bool false)], args := [d] }
  | _ => none }
def FnValidEphemeralSuffixWrongFalsely : Prop := fnValidEphemeralSuffixRow.holds Try.pinned (OpenSpec.ofChange fnValidEphemeralSuffixWrong)

/-- 'zzlaws_internal_names_b1.FnValidCutNoHash': WHATEVER THE INPUT: true; the input reads as it did. -/
def fnValidCutNoHashSpec : ChangeSpec := { name := "fnValidCutNoHash", fn := fun _ => fun
  | [d1, d2] => { results := [.lit (.bool true)], args := [d1, d2] }
  | _ => none }
def fnValidCutNoHashRow : OpenClaim := { program := "qxb6619215a", sum := "8c8d70d5e20e61b4ab7fe4d8f83649e0de4f382154e0c14e197c27154ef8c65d", func := "example.com/skirnir/skirnir/zzlaws_internal_names_b1.FnValidCutNoHash", spec := "fnValidCutNoHash", apart := false }
def FnValidCutNoHashSaid : Prop := fnValidCutNoHashRow.holds Try.pinned (OpenSpec.ofChange fnValidCutNoHashSpec)

/-- ITS FALSE NEIGHBOUR: 'it returns false'. Refute it at one input. -/
def fnValidCutNoHashWrong : ChangeSpec := { name := "fnValidCutNoHash", fn := fun _ => fun
  | [d1, d2] => { results := [.lit (.bool false)], args := [d1, d2] }
  | _ => none }
def FnValidCutNoHashWrongFalsely : Prop := fnValidCutNoHashRow.holds Try.pinned (OpenSpec.ofChange fnValidCutNoHashWrong)

end Rows
end Go.Proofs.Qxb6619215a
