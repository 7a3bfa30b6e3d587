/-
  No cell of these rows narrows 'for every input' (looked for: loops, veiled, ifaces, maps, wideKeys, modest, calm, conditions, laid).
  DERIVED. THE GIVEN ROWS OF THIS SEAT. 4 by the template 'for every input the law returns true; each argument reads behind the call as it read before'; 0 by the template 'total and deterministic' (their statements: Qxb6003629aTotals.lean).
  GIVEN WITH THE SEED: the statements are not yours to turn. If you find one false, say at which input.
  Laid BY PROGRAM, IN A SANDBOX (cutbox-rows.mjs): the forced cells as the released guide's own fill.sh prints them over the translation cb8c3e56005a6b5d… (all of the seat's roots in one cut). By AI agents, Wed Nov 11 2026. No macro, syntax, notation, axiom, sorry.
-/
import Derived.Test.Qxb6003629aChecked
import GoSem.Claim
import GoSem.ClaimJoined
import GoSem.ClaimMapViews
import Derived.JoinedTies
import Derived.KernelRfl
namespace Go.Proofs.Qxb6003629a
/- THE CELL 'sum', in the pinned program and in every row, IS THE sha256 OF THE DUMP (.gsa) THAT Qxb6003629aProg.lean LOADS. Nothing in Lean hashes anything: it is a label: what it is worth is what the hold of that sum in a sandbox is worth. -/
noncomputable def Try.pinned : Pinned := { name := "qxb6003629a", sum := "cb8c3e56005a6b5d53c281aaed5b01eb2274a92331286b1883d94c9d58779ae1", checked := Try.checked }
namespace Rows
def none {H : Type} : Left H := { results := [], args := [] }

/-- 'zzlaws_internal_markdown_b1.FnGoesOnListItemWidthsAdd': WHATEVER THE INPUT: true; the input reads as it did. -/
def fnGoesOnListItemWidthsAddSpec : ChangeSpec := { name := "fnGoesOnListItemWidthsAdd", fn := fun _ => fun
  | [d1, d2, d3, d4, d5, d6, d7] => { results := [.lit (.bool true)], args := [d1, d2, d3, d4, d5, d6, d7] }
  | _ => none }
def fnGoesOnListItemWidthsAddRow : OpenClaim := { program := "qxb6003629a", sum := "cb8c3e56005a6b5d53c281aaed5b01eb2274a92331286b1883d94c9d58779ae1", func := "example.com/parlorkeep/parlorkeep/zzlaws_internal_markdown_b1.FnGoesOnListItemWidthsAdd", spec := "fnGoesOnListItemWidthsAdd", apart := false }
def FnGoesOnListItemWidthsAddSaid : Prop := fnGoesOnListItemWidthsAddRow.holds Try.pinned (OpenSpec.ofChange fnGoesOnListItemWidthsAddSpec)

/-- ITS FALSE NEIGHBOUR: 'it returns false'. Refute it at one input. -/
def fnGoesOnListItemWidthsAddWrong : ChangeSpec := { name := "fnGoesOnListItemWidthsAdd", fn := fun _ => fun
  | [d1, d2, d3, d4, d5, d6, d7] => { results := [.lit (.bool false)], args := [d1, d2, d3, d4, d5, d6, d7] }
  | _ => none }
def FnGoesOnListItemWidthsAddWrongFalsely : Prop := fnGoesOnListItemWidthsAddRow.holds Try.pinned (OpenSpec.ofChange fnGoesOnListItemWidthsAddWrong)

/-- 'zzlaws_internal_markdown_b1.FnGoesOnTabStopShift': WHATEVER THE INPUT: true; the input reads as it did. -/
def fnGoesOnTabStopShiftSpec : ChangeSpec := { name := "fnGoesOnTabStopShift", fn := fun _ => fun
  | [d1, d2, d3, d4, d5, d6, d7, d8, d9] => { results := [.lit (.bool true)], args := [d1, d2, d3, d4, d5, d6, d7, d8, d9] }
  | _ => none }
def fnGoesOnTabStopShiftRow : OpenClaim := { program := "qxb6003629a", sum := "cb8c3e56005a6b5d53c281aaed5b01eb2274a92331286b1883d94c9d58779ae1", func := "example.com/parlorkeep/parlorkeep/zzlaws_internal_markdown_b1.FnGoesOnTabStopShift", spec := "fnGoesOnTabStopShift", apart := false }
def FnGoesOnTabStopShiftSaid : Prop := fnGoesOnTabStopShiftRow.holds Try.pinned (OpenSpec.ofChange fnGoesOnTabStopShiftSpec)

/-- ITS FALSE NEIGHBOUR: 'it returns false'. Refute it at one input. -/
def fnGoesOnTabStopShiftWrong : ChangeSpec := { name := "fnGoesOnTabStopShift", fn := fun _ => fun
  | [d1, d2, d3, d4, d5, d6, d7, d8, d9] => { results := [.lit (.bool false)], args := [d1, d2, d3, d4, d5, d6, d7, d8, d9] }
  | _ => none }
def FnGoesOnTabStopShiftWrongFalsely : Prop := fnGoesOnTabStopShiftRow.holds Try.pinned (OpenSpec.ofChange fnGoesOnTabStopShiftWrong)

/-- 'zzlaws_internal_markdown_b1.FnThematicBreakRuleAndCut': WHATEVER THE INPUT: true; the input reads as it did. -/
def fnThematicBreakRuleAndCutSpec : ChangeSpec := { name := "fnThematicBreakRuleAndCut", fn := fun _ => fun
  | [d1, d2, d3, d4, d5, d6, d7] => { results := [.lit (.bool true)], args := [d1, d2, d3, d4, d5, d6, d7] }
  | _ => none }
def fnThematicBreakRuleAndCutRow : OpenClaim := { program := "qxb6003629a", sum := "cb8c3e56005a6b5d53c281aaed5b01eb2274a92331286b1883d94c9d58779ae1", func := "example.com/parlorkeep/parlorkeep/zzlaws_internal_markdown_b1.FnThematicBreakRuleAndCut", spec := "fnThematicBreakRuleAndCut", apart := false }
def FnThematicBreakRuleAndCutSaid : Prop := fnThematicBreakRuleAndCutRow.holds Try.pinned (OpenSpec.ofChange fnThematicBreakRuleAndCutSpec)

/-- ITS FALSE NEIGHBOUR: 'it returns false'. Refute it at one input. -/
def fnThematicBreakRuleAndCutWrong : ChangeSpec := { name := "fnThematicBreakRuleAndCut", fn := fun _ => fun
  | [d1, d2, d3, d4, d5, d6, d7] => { results := [.lit (.bool false)], args := [d1, d2, d3, d4, d5, d6, d7] }
  | _ => none }
def FnThematicBreakRuleAndCutWrongFalsely : Prop := fnThematicBreakRuleAndCutRow.holds Try.pinned (OpenSpec.ofChange fnThematicBreakRuleAndCutWrong)

/-- 'zzlaws_internal_markdown_b1.FnWholeTagFirstAcceptOfAutomaton': WHATEVER THE INPUT: true; the input reads as it did. -/
def fnWholeTagFirstAcceptOfAutomatonSpec : ChangeSpec := { name := "fnWholeTagFirstAcceptOfAutomaton", fn := fun _ => fun
  | [d] => { results := [.lit (.bool true)], args := [d] }
  | _ => none }
def fnWholeTagFirstAcceptOfAutomatonRow : OpenClaim := { program := "qxb6003629a", sum := "cb8c3e56005a6b5d53c281aaed5b01eb2274a92331286b1883d94c9d58779ae1", func := "example.com/parlorkeep/parlorkeep/zzlaws_internal_markdown_b1.FnWholeTagFirstAcceptOfAutomaton", spec := "fnWholeTagFirstAcceptOfAutomaton", inPlace := ["internal/bytealg.IndexByteString", "internal/bytealg.IndexByte"], apart := false }
def FnWholeTagFirstAcceptOfAutomatonSaid : Prop := fnWholeTagFirstAcceptOfAutomatonRow.holds Try.pinned (OpenSpec.ofChange fnWholeTagFirstAcceptOfAutomatonSpec)

/-- ITS FALSE NEIGHBOUR: 'it returns false'. Refute it at one input. -/
def fnWholeTagFirstAcceptOfAutomatonWrong : ChangeSpec := { name := "fnWholeTagFirstAcceptOfAutomaton", fn := fun _ => fun
  | [d] => { results := [.lit (.bool false)], args := [d] }
  | _ => none }
def FnWholeTagFirstAcceptOfAutomatonWrongFalsely : Prop := fnWholeTagFirstAcceptOfAutomatonRow.holds Try.pinned (OpenSpec.ofChange fnWholeTagFirstAcceptOfAutomatonWrong)

end Rows
end Go.Proofs.Qxb6003629a
