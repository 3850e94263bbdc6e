/-
  No cell of these rows narrows 'for every input' (looked for: loops, veiled, ifaces, maps, wideKeys, modest, calm, conditions, laid).
  DERIVED. THE GIVEN ROWS OF THIS SEAT. 5 by the template 'for every input the law returns true; each argument reads behind the call as it read before'; 0 by the template 'total and deterministic' (their statements: Qxb6600851aTotals.lean).
  GIVEN WITH THE SEED: the statements are not yours to turn. If you find one false, say at which input.
  Laid BY PROGRAM, IN A SANDBOX (cutbox-rows.mjs): the forced cells as the released guide's own fill.sh prints them over the translation e1874355cfeccf10… (all of the seat's roots in one cut). By AI agents, Wed Nov 11 2026. No macro, syntax, notation, axiom, sorry.
-/
import Derived.Test.Qxb6600851aChecked
import GoSem.Claim
import GoSem.ClaimJoined
import GoSem.ClaimMapViews
import Derived.JoinedTies
import Derived.KernelRfl
namespace Go.Proofs.Qxb6600851a
/- THE CELL 'sum', in the pinned program and in every row, IS THE sha256 OF THE DUMP (.gsa) THAT Qxb6600851aProg.lean LOADS. Nothing in Lean hashes anything: it is a label: what it is worth is what the hold of that sum in a sandbox is worth. -/
noncomputable def Try.pinned : Pinned := { name := "qxb6600851a", sum := "e1874355cfeccf10642ee3deef911a2e3e3cd4451076182c2ad0064a37bd0fcf", checked := Try.checked }
namespace Rows
def none {H : Type} : Left H := { results := [], args := [] }

/-- 'zzlaws_internal_jsonfile_b1.FnEscapeLengthWholeAnswerStands': WHATEVER THE INPUT: true; the input reads as it did. -/
def fnEscapeLengthWholeAnswerStandsSpec : ChangeSpec := { name := "fnEscapeLengthWholeAnswerStands", fn := fun _ => fun
  | [d1, d2] => { results := [.lit (.bool true)], args := [d1, d2] }
  | _ => none }
def fnEscapeLengthWholeAnswerStandsRow : OpenClaim := { program := "qxb6600851a", sum := "e1874355cfeccf10642ee3deef911a2e3e3cd4451076182c2ad0064a37bd0fcf", func := "example.com/stintkeeper/stintkeeper/zzlaws_internal_jsonfile_b1.FnEscapeLengthWholeAnswerStands", spec := "fnEscapeLengthWholeAnswerStands", apart := false }
def FnEscapeLengthWholeAnswerStandsSaid : Prop := fnEscapeLengthWholeAnswerStandsRow.holds Try.pinned (OpenSpec.ofChange fnEscapeLengthWholeAnswerStandsSpec)

/-- ITS FALSE NEIGHBOUR: 'it returns false'. Refute it at one input. -/
def fnEscapeLengthWholeAnswerStandsWrong : ChangeSpec := { name := "fnEscapeLengthWholeAnswerStands", fn := fun _ => fun
  | [d1, d2] => { results := [.lit (.bool false)], args := [d1, d2] }
  | _ => none }
def FnEscapeLengthWholeAnswerStandsWrongFalsely : Prop := fnEscapeLengthWholeAnswerStandsRow.holds Try.pinned (OpenSpec.ofChange fnEscapeLengthWholeAnswerStandsWrong)

/-- 'zzlaws_internal_jsonfile_b1.FnEscapeLengthWaitsForTheWholePair': WHATEVER THE INPUT: true; the input reads as it did. -/
def fnEscapeLengthWaitsForTheWholePairSpec : ChangeSpec := { name := "fnEscapeLengthWaitsForTheWholePair", fn := fun _ => fun
  | [d1, d2] => { results := [.lit (.bool true)], args := [d1, d2] }
  | _ => none }
def fnEscapeLengthWaitsForTheWholePairRow : OpenClaim := { program := "qxb6600851a", sum := "e1874355cfeccf10642ee3deef911a2e3e3cd4451076182c2ad0064a37bd0fcf", func := "example.com/stintkeeper/stintkeeper/zzlaws_internal_jsonfile_b1.FnEscapeLengthWaitsForTheWholePair", spec := "fnEscapeLengthWaitsForTheWholePair", apart := false }
def FnEscapeLengthWaitsForTheWholePairSaid : Prop := fnEscapeLengthWaitsForTheWholePairRow.holds Try.pinned (OpenSpec.ofChange fnEscapeLengthWaitsForTheWholePairSpec)

/-- ITS FALSE NEIGHBOUR: 'it returns false'. Refute it at one input. -/
def fnEscapeLengthWaitsForTheWholePairWrong : ChangeSpec := { name := "fnEscapeLengthWaitsForTheWholePair", fn := fun _ => fun
  | [d1, d2] => { results := [.lit (.bool false)], args := [d1, d2] }
  | _ => none }
def FnEscapeLengthWaitsForTheWholePairWrongFalsely : Prop := fnEscapeLengthWaitsForTheWholePairRow.holds Try.pinned (OpenSpec.ofChange fnEscapeLengthWaitsForTheWholePairWrong)

/-- 'zzlaws_internal_jsonfile_b1.FnHexEscapeReadsWhatWasWritten': WHATEVER THE INPUT: true; the input reads as it did. -/
def fnHexEscapeReadsWhatWasWrittenSpec : ChangeSpec := { name := "fnHexEscapeReadsWhatWasWritten", fn := fun _ => fun
  | [d1, d2, d3] => { results := [.lit (.bool true)], args := [d1, d2, d3] }
  | _ => none }
def fnHexEscapeReadsWhatWasWrittenRow : OpenClaim := { program := "qxb6600851a", sum := "e1874355cfeccf10642ee3deef911a2e3e3cd4451076182c2ad0064a37bd0fcf", func := "example.com/stintkeeper/stintkeeper/zzlaws_internal_jsonfile_b1.FnHexEscapeReadsWhatWasWritten", spec := "fnHexEscapeReadsWhatWasWritten", apart := false }
def FnHexEscapeReadsWhatWasWrittenSaid : Prop := fnHexEscapeReadsWhatWasWrittenRow.holds Try.pinned (OpenSpec.ofChange fnHexEscapeReadsWhatWasWrittenSpec)

/-- ITS FALSE NEIGHBOUR: 'it returns false'. Refute it at one input. -/
def fnHexEscapeReadsWhatWasWrittenWrong : ChangeSpec := { name := "fnHexEscapeReadsWhatWasWritten", fn := fun _ => fun
  | [d1, d2, d3] => { results := [.lit (.bool false)], args := [d1, d2, d3] }
  | _ => none }
def FnHexEscapeReadsWhatWasWrittenWrongFalsely : Prop := fnHexEscapeReadsWhatWasWrittenRow.holds Try.pinned (OpenSpec.ofChange fnHexEscapeReadsWhatWasWrittenWrong)

/-- 'zzlaws_internal_jsonfile_b1.FnNumberPartRunMatchesGrammar': WHATEVER THE INPUT: true; the input reads as it did. -/
def fnNumberPartRunMatchesGrammarSpec : ChangeSpec := { name := "fnNumberPartRunMatchesGrammar", fn := fun _ => fun
  | [d] => { results := [.lit (.bool true)], args := [d] }
  | _ => none }
def fnNumberPartRunMatchesGrammarRow : OpenClaim := { program := "qxb6600851a", sum := "e1874355cfeccf10642ee3deef911a2e3e3cd4451076182c2ad0064a37bd0fcf", func := "example.com/stintkeeper/stintkeeper/zzlaws_internal_jsonfile_b1.FnNumberPartRunMatchesGrammar", spec := "fnNumberPartRunMatchesGrammar", apart := false }
def FnNumberPartRunMatchesGrammarSaid : Prop := fnNumberPartRunMatchesGrammarRow.holds Try.pinned (OpenSpec.ofChange fnNumberPartRunMatchesGrammarSpec)

/-- ITS FALSE NEIGHBOUR: 'it returns false'. Refute it at one input. -/
def fnNumberPartRunMatchesGrammarWrong : ChangeSpec := { name := "fnNumberPartRunMatchesGrammar", fn := fun _ => fun
  | [d] => { results := [.lit (.bool false)], args := [d] }
  | _ => none }
def FnNumberPartRunMatchesGrammarWrongFalsely : Prop := fnNumberPartRunMatchesGrammarRow.holds Try.pinned (OpenSpec.ofChange fnNumberPartRunMatchesGrammarWrong)

/-- 'zzlaws_internal_jsonfile_b1.FnNumberPartRefusalKeepsPartAndAtOnlyGuardsTheMinus': WHATEVER THE INPUT: true; the input reads as it did. -/
def fnNumberPartRefusalKeepsPartAndAtOnlyGuardsTheMinusSpec : ChangeSpec := { name := "fnNumberPartRefusalKeepsPartAndAtOnlyGuardsTheMinus", fn := fun _ => fun
  | [d1, d2, d3, d4] => { results := [.lit (.bool true)], args := [d1, d2, d3, d4] }
  | _ => none }
def fnNumberPartRefusalKeepsPartAndAtOnlyGuardsTheMinusRow : OpenClaim := { program := "qxb6600851a", sum := "e1874355cfeccf10642ee3deef911a2e3e3cd4451076182c2ad0064a37bd0fcf", func := "example.com/stintkeeper/stintkeeper/zzlaws_internal_jsonfile_b1.FnNumberPartRefusalKeepsPartAndAtOnlyGuardsTheMinus", spec := "fnNumberPartRefusalKeepsPartAndAtOnlyGuardsTheMinus", apart := false }
def FnNumberPartRefusalKeepsPartAndAtOnlyGuardsTheMinusSaid : Prop := fnNumberPartRefusalKeepsPartAndAtOnlyGuardsTheMinusRow.holds Try.pinned (OpenSpec.ofChange fnNumberPartRefusalKeepsPartAndAtOnlyGuardsTheMinusSpec)

/-- ITS FALSE NEIGHBOUR: 'it returns false'. Refute it at one input. -/
def fnNumberPartRefusalKeepsPartAndAtOnlyGuardsTheMinusWrong : ChangeSpec := { name := "fnNumberPartRefusalKeepsPartAndAtOnlyGuardsTheMinus", fn := fun _ => fun
  | [d1, d2, d3, d4] => { results := [.lit (.bool false)], args := [d1, d2, d3, d4] }
  | _ => none }
def FnNumberPartRefusalKeepsPartAndAtOnlyGuardsTheMinusWrongFalsely : Prop := fnNumberPartRefusalKeepsPartAndAtOnlyGuardsTheMinusRow.holds Try.pinned (OpenSpec.ofChange fnNumberPartRefusalKeepsPartAndAtOnlyGuardsTheMinusWrong)

end Rows
end Go.Proofs.Qxb6600851a
