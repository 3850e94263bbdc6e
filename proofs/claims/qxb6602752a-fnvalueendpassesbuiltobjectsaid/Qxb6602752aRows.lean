/-
  No cell of these rows narrows 'for every input' (looked for: loops, veiled, ifaces, maps, wideKeys, modest, calm, conditions, laid).
  DERIVED. THE GIVEN ROWS OF THIS SEAT. 4 by the template 'for every input the law returns true; each argument reads behind the call as it read before'; 0 by the template 'total and deterministic' (their statements: Qxb6602752aTotals.lean).
  GIVEN WITH THE SEED: the statements are not yours to turn. If you find one false, say at which input.
  Laid BY PROGRAM, IN A SANDBOX (cutbox-rows.mjs): the forced cells as the released guide's own fill.sh prints them over the translation 993beaf2e0a5e2f1… (all of the seat's roots in one cut). By AI agents, Wed Nov 11 2026. No macro, syntax, notation, axiom, sorry.
-/
import Derived.Test.Qxb6602752aChecked
import GoSem.Claim
import GoSem.ClaimJoined
import GoSem.ClaimMapViews
import Derived.JoinedTies
import Derived.KernelRfl
namespace Go.Proofs.Qxb6602752a
/- THE CELL 'sum', in the pinned program and in every row, IS THE sha256 OF THE DUMP (.gsa) THAT Qxb6602752aProg.lean LOADS. Nothing in Lean hashes anything: it is a label: what it is worth is what the hold of that sum in a sandbox is worth. -/
noncomputable def Try.pinned : Pinned := { name := "qxb6602752a", sum := "993beaf2e0a5e2f1f5ed3278fde459f4d1680e6fc4b9d5c20c5b3407ab23a1d7", checked := Try.checked }
namespace Rows
def none {H : Type} : Left H := { results := [], args := [] }

/-- 'zzlaws_document_b1.FnValidStepNameSplitsAtAnyPoint': WHATEVER THE INPUT: true; the input reads as it did. -/
def fnValidStepNameSplitsAtAnyPointSpec : ChangeSpec := { name := "fnValidStepNameSplitsAtAnyPoint", fn := fun _ => fun
  | [d1, d2] => { results := [.lit (.bool true)], args := [d1, d2] }
  | _ => none }
def fnValidStepNameSplitsAtAnyPointRow : OpenClaim := { program := "qxb6602752a", sum := "993beaf2e0a5e2f1f5ed3278fde459f4d1680e6fc4b9d5c20c5b3407ab23a1d7", func := "example.com/counterstep/counterstep/zzlaws_document_b1.FnValidStepNameSplitsAtAnyPoint", spec := "fnValidStepNameSplitsAtAnyPoint", apart := false }
def FnValidStepNameSplitsAtAnyPointSaid : Prop := fnValidStepNameSplitsAtAnyPointRow.holds Try.pinned (OpenSpec.ofChange fnValidStepNameSplitsAtAnyPointSpec)

/-- ITS FALSE NEIGHBOUR: 'it returns false'. Refute it at one input. -/
def fnValidStepNameSplitsAtAnyPointWrong : ChangeSpec := { name := "fnValidStepNameSplitsAtAnyPoint", fn := fun _ => fun
  | [d1, d2] => { results := [.lit (.bool false)], args := [d1, d2] }
  | _ => none }
def FnValidStepNameSplitsAtAnyPointWrongFalsely : Prop := fnValidStepNameSplitsAtAnyPointRow.holds Try.pinned (OpenSpec.ofChange fnValidStepNameSplitsAtAnyPointWrong)

/-- 'zzlaws_document_b1.FnStringEndIsFirstUnescapedQuote': WHATEVER THE INPUT: true; the input reads as it did. -/
def fnStringEndIsFirstUnescapedQuoteSpec : ChangeSpec := { name := "fnStringEndIsFirstUnescapedQuote", fn := fun _ => fun
  | [d1, d2] => { results := [.lit (.bool true)], args := [d1, d2] }
  | _ => none }
def fnStringEndIsFirstUnescapedQuoteRow : OpenClaim := { program := "qxb6602752a", sum := "993beaf2e0a5e2f1f5ed3278fde459f4d1680e6fc4b9d5c20c5b3407ab23a1d7", func := "example.com/counterstep/counterstep/zzlaws_document_b1.FnStringEndIsFirstUnescapedQuote", spec := "fnStringEndIsFirstUnescapedQuote", apart := false }
def FnStringEndIsFirstUnescapedQuoteSaid : Prop := fnStringEndIsFirstUnescapedQuoteRow.holds Try.pinned (OpenSpec.ofChange fnStringEndIsFirstUnescapedQuoteSpec)

/-- ITS FALSE NEIGHBOUR: 'it returns false'. Refute it at one input. -/
def fnStringEndIsFirstUnescapedQuoteWrong : ChangeSpec := { name := "fnStringEndIsFirstUnescapedQuote", fn := fun _ => fun
  | [d1, d2] => { results := [.lit (.bool false)], args := [d1, d2] }
  | _ => none }
def FnStringEndIsFirstUnescapedQuoteWrongFalsely : Prop := fnStringEndIsFirstUnescapedQuoteRow.holds Try.pinned (OpenSpec.ofChange fnStringEndIsFirstUnescapedQuoteWrong)

/-- 'zzlaws_document_b1.FnStringEndPassesEncodedString': WHATEVER THE INPUT: true; the input reads as it did. -/
def fnStringEndPassesEncodedStringSpec : ChangeSpec := { name := "fnStringEndPassesEncodedString", fn := fun _ => fun
  | [d1, d2, d3] => { results := [.lit (.bool true)], args := [d1, d2, d3] }
  | _ => none }
def fnStringEndPassesEncodedStringRow : OpenClaim := { program := "qxb6602752a", sum := "993beaf2e0a5e2f1f5ed3278fde459f4d1680e6fc4b9d5c20c5b3407ab23a1d7", func := "example.com/counterstep/counterstep/zzlaws_document_b1.FnStringEndPassesEncodedString", spec := "fnStringEndPassesEncodedString", apart := false }
def FnStringEndPassesEncodedStringSaid : Prop := fnStringEndPassesEncodedStringRow.holds Try.pinned (OpenSpec.ofChange fnStringEndPassesEncodedStringSpec)

/-- ITS FALSE NEIGHBOUR: 'it returns false'. Refute it at one input. -/
def fnStringEndPassesEncodedStringWrong : ChangeSpec := { name := "fnStringEndPassesEncodedString", fn := fun _ => fun
  | [d1, d2, d3] => { results := [.lit (.bool false)], args := [d1, d2, d3] }
  | _ => none }
def FnStringEndPassesEncodedStringWrongFalsely : Prop := fnStringEndPassesEncodedStringRow.holds Try.pinned (OpenSpec.ofChange fnStringEndPassesEncodedStringWrong)

/-- 'zzlaws_document_b1.FnValueEndPassesBuiltObject': WHATEVER THE INPUT: true; the input reads as it did. -/
def fnValueEndPassesBuiltObjectSpec : ChangeSpec := { name := "fnValueEndPassesBuiltObject", fn := fun _ => fun
  | [d1, d2, d3, d4] => { results := [.lit (.bool true)], args := [d1, d2, d3, d4] }
  | _ => none }
def fnValueEndPassesBuiltObjectRow : OpenClaim := { program := "qxb6602752a", sum := "993beaf2e0a5e2f1f5ed3278fde459f4d1680e6fc4b9d5c20c5b3407ab23a1d7", func := "example.com/counterstep/counterstep/zzlaws_document_b1.FnValueEndPassesBuiltObject", spec := "fnValueEndPassesBuiltObject", apart := false }
def FnValueEndPassesBuiltObjectSaid : Prop := fnValueEndPassesBuiltObjectRow.holds Try.pinned (OpenSpec.ofChange fnValueEndPassesBuiltObjectSpec)

/-- ITS FALSE NEIGHBOUR: 'it returns false'. Refute it at one input. -/
def fnValueEndPassesBuiltObjectWrong : ChangeSpec := { name := "fnValueEndPassesBuiltObject", fn := fun _ => fun
  | [d1, d2, d3, d4] => { results := [.lit (.bool false)], args := [d1, d2, d3, d4] }
  | _ => none }
def FnValueEndPassesBuiltObjectWrongFalsely : Prop := fnValueEndPassesBuiltObjectRow.holds Try.pinned (OpenSpec.ofChange fnValueEndPassesBuiltObjectWrong)

end Rows
end Go.Proofs.Qxb6602752a
