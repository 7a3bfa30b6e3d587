/-
  No cell of these rows narrows 'for every input' (looked for: loops, veiled, ifaces, maps, wideKeys, modest, calm, conditions, laid).
  DERIVED. THE GIVEN ROWS OF THIS SEAT. 3 by the template 'for every input the law returns true; each argument reads behind the call as it read before'; 0 by the template 'total and deterministic' (their statements: Qxb6605285aTotals.lean).
  GIVEN WITH THE SEED: the statements are not yours to turn. If you find one false, say at which input.
  Laid BY PROGRAM, IN A SANDBOX (cutbox-rows.mjs): the forced cells as the released guide's own fill.sh prints them over the translation 1219a1c16bf86a9e… (all of the seat's roots in one cut). By AI agents, Wed Nov 11 2026. No macro, syntax, notation, axiom, sorry.
-/
import Derived.Test.Qxb6605285aChecked
import GoSem.Claim
import GoSem.ClaimJoined
import GoSem.ClaimMapViews
import Derived.JoinedTies
import Derived.KernelRfl
namespace Go.Proofs.Qxb6605285a
/- THE CELL 'sum', in the pinned program and in every row, IS THE sha256 OF THE DUMP (.gsa) THAT Qxb6605285aProg.lean LOADS. Nothing in Lean hashes anything: it is a label: what it is worth is what the hold of that sum in a sandbox is worth. -/
noncomputable def Try.pinned : Pinned := { name := "qxb6605285a", sum := "1219a1c16bf86a9ed35c0ec4b787d9d7a2c84d7221e3ac5f66834670f3b5da54", checked := Try.checked }
namespace Rows
def none {H : Type} : Left H := { results := [], args := [] }

/-- 'zzlaws_pkg_synth_b1.FnPunycodeDecodesBack': WHATEVER THE INPUT: true; the input reads as it did. -/
def fnPunycodeDecodesBackSpec : ChangeSpec := { name := "fnPunycodeDecodesBack", fn := fun _ => fun
  | [d] => { results := [.lit (.bool true)], args := [d] }
  | _ => none }
def fnPunycodeDecodesBackRow : OpenClaim := { program := "qxb6605285a", sum := "1219a1c16bf86a9ed35c0ec4b787d9d7a2c84d7221e3ac5f66834670f3b5da54", func := "example.com/depositary/depositary/zzlaws_pkg_synth_b1.FnPunycodeDecodesBack", spec := "fnPunycodeDecodesBack", inPlace := ["internal/abi.NoEscape"], apart := false }
def FnPunycodeDecodesBackSaid : Prop := fnPunycodeDecodesBackRow.holds Try.pinned (OpenSpec.ofChange fnPunycodeDecodesBackSpec)

/-- ITS FALSE NEIGHBOUR: 'it returns false'. Refute it at one input. -/
def fnPunycodeDecodesBackWrong : ChangeSpec := { name := "fnPunycodeDecodesBack", fn := fun _ => fun
  | [d] => { results := [.lit (.bool false)], args := [d] }
  | _ => none }
def FnPunycodeDecodesBackWrongFalsely : Prop := fnPunycodeDecodesBackRow.holds Try.pinned (OpenSpec.ofChange fnPunycodeDecodesBackWrong)

/-- 'zzlaws_pkg_synth_b1.FnWriteDeltaDecodesBack': WHATEVER THE INPUT: true; the input reads as it did. -/
def fnWriteDeltaDecodesBackSpec : ChangeSpec := { name := "fnWriteDeltaDecodesBack", fn := fun _ => fun
  | [d1, d2] => { results := [.lit (.bool true)], args := [d1, d2] }
  | _ => none }
def fnWriteDeltaDecodesBackRow : OpenClaim := { program := "qxb6605285a", sum := "1219a1c16bf86a9ed35c0ec4b787d9d7a2c84d7221e3ac5f66834670f3b5da54", func := "example.com/depositary/depositary/zzlaws_pkg_synth_b1.FnWriteDeltaDecodesBack", spec := "fnWriteDeltaDecodesBack", inPlace := ["internal/abi.NoEscape"], apart := false }
def FnWriteDeltaDecodesBackSaid : Prop := fnWriteDeltaDecodesBackRow.holds Try.pinned (OpenSpec.ofChange fnWriteDeltaDecodesBackSpec)

/-- ITS FALSE NEIGHBOUR: 'it returns false'. Refute it at one input. -/
def fnWriteDeltaDecodesBackWrong : ChangeSpec := { name := "fnWriteDeltaDecodesBack", fn := fun _ => fun
  | [d1, d2] => { results := [.lit (.bool false)], args := [d1, d2] }
  | _ => none }
def FnWriteDeltaDecodesBackWrongFalsely : Prop := fnWriteDeltaDecodesBackRow.holds Try.pinned (OpenSpec.ofChange fnWriteDeltaDecodesBackWrong)

/-- 'zzlaws_pkg_synth_b1.FnAdaptBiasClosedForm': WHATEVER THE INPUT: true; the input reads as it did. -/
def fnAdaptBiasClosedFormSpec : ChangeSpec := { name := "fnAdaptBiasClosedForm", fn := fun _ => fun
  | [d1, d2, d3] => { results := [.lit (.bool true)], args := [d1, d2, d3] }
  | _ => none }
def fnAdaptBiasClosedFormRow : OpenClaim := { program := "qxb6605285a", sum := "1219a1c16bf86a9ed35c0ec4b787d9d7a2c84d7221e3ac5f66834670f3b5da54", func := "example.com/depositary/depositary/zzlaws_pkg_synth_b1.FnAdaptBiasClosedForm", spec := "fnAdaptBiasClosedForm", apart := false }
def FnAdaptBiasClosedFormSaid : Prop := fnAdaptBiasClosedFormRow.holds Try.pinned (OpenSpec.ofChange fnAdaptBiasClosedFormSpec)

/-- ITS FALSE NEIGHBOUR: 'it returns false'. Refute it at one input. -/
def fnAdaptBiasClosedFormWrong : ChangeSpec := { name := "fnAdaptBiasClosedForm", fn := fun _ => fun
  | [d1, d2, d3] => { results := [.lit (.bool false)], args := [d1, d2, d3] }
  | _ => none }
def FnAdaptBiasClosedFormWrongFalsely : Prop := fnAdaptBiasClosedFormRow.holds Try.pinned (OpenSpec.ofChange fnAdaptBiasClosedFormWrong)

end Rows
end Go.Proofs.Qxb6605285a
