/-
  No cell of these rows narrows 'for every input' (looked for: loops, veiled, ifaces, maps, wideKeys, modest, calm, conditions, laid).
  DERIVED. THE GIVEN ROWS OF THIS SEAT. 4 by the template 'for every input the law returns true; each argument reads behind the call as it read before'; 0 by the template 'total and deterministic' (their statements: Qxb6605181aTotals.lean).
  GIVEN WITH THE SEED: the statements are not yours to turn. If you find one false, say at which input.
  Laid BY PROGRAM, IN A SANDBOX (cutbox-rows.mjs): the forced cells as the released guide's own fill.sh prints them over the translation aafe9a57389c65a0… (all of the seat's roots in one cut). By AI agents, Wed Nov 11 2026. No macro, syntax, notation, axiom, sorry.
-/
import Derived.Test.Qxb6605181aChecked
import GoSem.Claim
import GoSem.ClaimJoined
import GoSem.ClaimMapViews
import Derived.JoinedTies
import Derived.KernelRfl
namespace Go.Proofs.Qxb6605181a
/- THE CELL 'sum', in the pinned program and in every row, IS THE sha256 OF THE DUMP (.gsa) THAT Qxb6605181aProg.lean LOADS. Nothing in Lean hashes anything: it is a label: what it is worth is what the hold of that sum in a sandbox is worth. -/
noncomputable def Try.pinned : Pinned := { name := "qxb6605181a", sum := "aafe9a57389c65a01d2e214f3cbe4afa26e032594327faafc668492b436babc4", checked := Try.checked }
namespace Rows
def none {H : Type} : Left H := { results := [], args := [] }

/-- 'zzlaws_internal_upstream_b1.FnNumberMatchesGrammarAutomaton': WHATEVER THE INPUT: true; the input reads as it did. -/
def fnNumberMatchesGrammarAutomatonSpec : ChangeSpec := { name := "fnNumberMatchesGrammarAutomaton", fn := fun _ => fun
  | [d1, d2, d3] => { results := [.lit (.bool true)], args := [d1, d2, d3] }
  | _ => none }
def fnNumberMatchesGrammarAutomatonRow : OpenClaim := { program := "qxb6605181a", sum := "aafe9a57389c65a01d2e214f3cbe4afa26e032594327faafc668492b436babc4", func := "example.com/keelson/keelson/zzlaws_internal_upstream_b1.FnNumberMatchesGrammarAutomaton", spec := "fnNumberMatchesGrammarAutomaton", apart := false }
def FnNumberMatchesGrammarAutomatonSaid : Prop := fnNumberMatchesGrammarAutomatonRow.holds Try.pinned (OpenSpec.ofChange fnNumberMatchesGrammarAutomatonSpec)

/-- ITS FALSE NEIGHBOUR: 'it returns false'. Refute it at one input. -/
def fnNumberMatchesGrammarAutomatonWrong : ChangeSpec := { name := "fnNumberMatchesGrammarAutomaton", fn := fun _ => fun
  | [d1, d2, d3] => { results := [.lit (.bool false)], args := [d1, d2, d3] }
  | _ => none }
def FnNumberMatchesGrammarAutomatonWrongFalsely : Prop := fnNumberMatchesGrammarAutomatonRow.holds Try.pinned (OpenSpec.ofChange fnNumberMatchesGrammarAutomatonWrong)

/-- 'zzlaws_internal_upstream_b1.FnEscapeLenTakesWholeUnicodeEscape': WHATEVER THE INPUT: true; the input reads as it did. -/
def fnEscapeLenTakesWholeUnicodeEscapeSpec : ChangeSpec := { name := "fnEscapeLenTakesWholeUnicodeEscape", fn := fun _ => fun
  | [d1, d2, d3] => { results := [.lit (.bool true)], args := [d1, d2, d3] }
  | _ => none }
def fnEscapeLenTakesWholeUnicodeEscapeRow : OpenClaim := { program := "qxb6605181a", sum := "aafe9a57389c65a01d2e214f3cbe4afa26e032594327faafc668492b436babc4", func := "example.com/keelson/keelson/zzlaws_internal_upstream_b1.FnEscapeLenTakesWholeUnicodeEscape", spec := "fnEscapeLenTakesWholeUnicodeEscape", apart := false }
def FnEscapeLenTakesWholeUnicodeEscapeSaid : Prop := fnEscapeLenTakesWholeUnicodeEscapeRow.holds Try.pinned (OpenSpec.ofChange fnEscapeLenTakesWholeUnicodeEscapeSpec)

/-- ITS FALSE NEIGHBOUR: 'it returns false'. Refute it at one input. -/
def fnEscapeLenTakesWholeUnicodeEscapeWrong : ChangeSpec := { name := "fnEscapeLenTakesWholeUnicodeEscape", fn := fun _ => fun
  | [d1, d2, d3] => { results := [.lit (.bool false)], args := [d1, d2, d3] }
  | _ => none }
def FnEscapeLenTakesWholeUnicodeEscapeWrongFalsely : Prop := fnEscapeLenTakesWholeUnicodeEscapeRow.holds Try.pinned (OpenSpec.ofChange fnEscapeLenTakesWholeUnicodeEscapeWrong)

/-- 'zzlaws_internal_upstream_b1.FnPeekStopsAtFirstNonSpace': WHATEVER THE INPUT: true; the input reads as it did. -/
def fnPeekStopsAtFirstNonSpaceSpec : ChangeSpec := { name := "fnPeekStopsAtFirstNonSpace", fn := fun _ => fun
  | [d1, d2, d3] => { results := [.lit (.bool true)], args := [d1, d2, d3] }
  | _ => none }
def fnPeekStopsAtFirstNonSpaceRow : OpenClaim := { program := "qxb6605181a", sum := "aafe9a57389c65a01d2e214f3cbe4afa26e032594327faafc668492b436babc4", func := "example.com/keelson/keelson/zzlaws_internal_upstream_b1.FnPeekStopsAtFirstNonSpace", spec := "fnPeekStopsAtFirstNonSpace", apart := false }
def FnPeekStopsAtFirstNonSpaceSaid : Prop := fnPeekStopsAtFirstNonSpaceRow.holds Try.pinned (OpenSpec.ofChange fnPeekStopsAtFirstNonSpaceSpec)

/-- ITS FALSE NEIGHBOUR: 'it returns false'. Refute it at one input. -/
def fnPeekStopsAtFirstNonSpaceWrong : ChangeSpec := { name := "fnPeekStopsAtFirstNonSpace", fn := fun _ => fun
  | [d1, d2, d3] => { results := [.lit (.bool false)], args := [d1, d2, d3] }
  | _ => none }
def FnPeekStopsAtFirstNonSpaceWrongFalsely : Prop := fnPeekStopsAtFirstNonSpaceRow.holds Try.pinned (OpenSpec.ofChange fnPeekStopsAtFirstNonSpaceWrong)

/-- 'zzlaws_internal_upstream_b1.FnPeekIgnoresLeadingWhiteSpace': WHATEVER THE INPUT: true; the input reads as it did. -/
def fnPeekIgnoresLeadingWhiteSpaceSpec : ChangeSpec := { name := "fnPeekIgnoresLeadingWhiteSpace", fn := fun _ => fun
  | [d1, d2, d3] => { results := [.lit (.bool true)], args := [d1, d2, d3] }
  | _ => none }
def fnPeekIgnoresLeadingWhiteSpaceRow : OpenClaim := { program := "qxb6605181a", sum := "aafe9a57389c65a01d2e214f3cbe4afa26e032594327faafc668492b436babc4", func := "example.com/keelson/keelson/zzlaws_internal_upstream_b1.FnPeekIgnoresLeadingWhiteSpace", spec := "fnPeekIgnoresLeadingWhiteSpace", apart := false }
def FnPeekIgnoresLeadingWhiteSpaceSaid : Prop := fnPeekIgnoresLeadingWhiteSpaceRow.holds Try.pinned (OpenSpec.ofChange fnPeekIgnoresLeadingWhiteSpaceSpec)

/-- ITS FALSE NEIGHBOUR: 'it returns false'. Refute it at one input. -/
def fnPeekIgnoresLeadingWhiteSpaceWrong : ChangeSpec := { name := "fnPeekIgnoresLeadingWhiteSpace", fn := fun _ => fun
  | [d1, d2, d3] => { results := [.lit (.bool false)], args := [d1, d2, d3] }
  | _ => none }
def FnPeekIgnoresLeadingWhiteSpaceWrongFalsely : Prop := fnPeekIgnoresLeadingWhiteSpaceRow.holds Try.pinned (OpenSpec.ofChange fnPeekIgnoresLeadingWhiteSpaceWrong)

end Rows
end Go.Proofs.Qxb6605181a
