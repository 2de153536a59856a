/-
  No cell of these rows narrows 'for every input' (looked for: loops, veiled, ifaces, maps, wideKeys, modest, calm, conditions, laid).
  DERIVED. THE GIVEN ROWS OF THIS SEAT. 7 by the template 'for every input the law returns true; each argument reads behind the call as it read before'; 0 by the template 'total and deterministic' (their statements: Qxb6600491aTotals.lean).
  GIVEN WITH THE SEED: the statements are not yours to turn. If you find one false, say at which input.
  Laid BY PROGRAM, IN A SANDBOX (cutbox-rows.mjs): the forced cells as the released guide's own fill.sh prints them over the translation 1e0c66a2a0ea0a56… (all of the seat's roots in one cut). By AI agents, Wed Nov 11 2026. No macro, syntax, notation, axiom, sorry.
-/
import Derived.Test.Qxb6600491aChecked
import GoSem.Claim
import GoSem.ClaimJoined
import GoSem.ClaimMapViews
import Derived.JoinedTies
import Derived.KernelRfl
namespace Go.Proofs.Qxb6600491a
/- THE CELL 'sum', in the pinned program and in every row, IS THE sha256 OF THE DUMP (.gsa) THAT Qxb6600491aProg.lean LOADS. Nothing in Lean hashes anything: it is a label: what it is worth is what the hold of that sum in a sandbox is worth. -/
noncomputable def Try.pinned : Pinned := { name := "qxb6600491a", sum := "1e0c66a2a0ea0a56e7e4f6a78ed82c8f869dcc26dfb3ca32d6d4378bc5f71bee", checked := Try.checked }
namespace Rows
def none {H : Type} : Left H := { results := [], args := [] }

/-- 'zzlaws_root_b1.FnStringEndMatchesModel': WHATEVER THE INPUT: true; the input reads as it did. -/
def fnStringEndMatchesModelSpec : ChangeSpec := { name := "fnStringEndMatchesModel", fn := fun _ => fun
  | [d1, d2] => { results := [.lit (.bool true)], args := [d1, d2] }
  | _ => none }
def fnStringEndMatchesModelRow : OpenClaim := { program := "qxb6600491a", sum := "1e0c66a2a0ea0a56e7e4f6a78ed82c8f869dcc26dfb3ca32d6d4378bc5f71bee", func := "example.com/vestwright/vestwright/zzlaws_root_b1.FnStringEndMatchesModel", spec := "fnStringEndMatchesModel", inPlace := ["internal/abi.NoEscape", "internal/bytealg.MakeNoZero"], apart := false }
def FnStringEndMatchesModelSaid : Prop := fnStringEndMatchesModelRow.holds Try.pinned (OpenSpec.ofChange fnStringEndMatchesModelSpec)

/-- ITS FALSE NEIGHBOUR: 'it returns false'. Refute it at one input. -/
def fnStringEndMatchesModelWrong : ChangeSpec := { name := "fnStringEndMatchesModel", fn := fun _ => fun
  | [d1, d2] => { results := [.lit (.bool false)], args := [d1, d2] }
  | _ => none }
def FnStringEndMatchesModelWrongFalsely : Prop := fnStringEndMatchesModelRow.holds Try.pinned (OpenSpec.ofChange fnStringEndMatchesModelWrong)

/-- 'zzlaws_root_b1.FnStringEndClosesOnItsQuote': WHATEVER THE INPUT: true; the input reads as it did. -/
def fnStringEndClosesOnItsQuoteSpec : ChangeSpec := { name := "fnStringEndClosesOnItsQuote", fn := fun _ => fun
  | [d1, d2] => { results := [.lit (.bool true)], args := [d1, d2] }
  | _ => none }
def fnStringEndClosesOnItsQuoteRow : OpenClaim := { program := "qxb6600491a", sum := "1e0c66a2a0ea0a56e7e4f6a78ed82c8f869dcc26dfb3ca32d6d4378bc5f71bee", func := "example.com/vestwright/vestwright/zzlaws_root_b1.FnStringEndClosesOnItsQuote", spec := "fnStringEndClosesOnItsQuote", inPlace := ["internal/abi.NoEscape", "internal/bytealg.MakeNoZero"], apart := false }
def FnStringEndClosesOnItsQuoteSaid : Prop := fnStringEndClosesOnItsQuoteRow.holds Try.pinned (OpenSpec.ofChange fnStringEndClosesOnItsQuoteSpec)

/-- ITS FALSE NEIGHBOUR: 'it returns false'. Refute it at one input. -/
def fnStringEndClosesOnItsQuoteWrong : ChangeSpec := { name := "fnStringEndClosesOnItsQuote", fn := fun _ => fun
  | [d1, d2] => { results := [.lit (.bool false)], args := [d1, d2] }
  | _ => none }
def FnStringEndClosesOnItsQuoteWrongFalsely : Prop := fnStringEndClosesOnItsQuoteRow.holds Try.pinned (OpenSpec.ofChange fnStringEndClosesOnItsQuoteWrong)

/-- 'zzlaws_root_b1.FnStringEndLooksOnlyAtItsString': WHATEVER THE INPUT: true; the input reads as it did. -/
def fnStringEndLooksOnlyAtItsStringSpec : ChangeSpec := { name := "fnStringEndLooksOnlyAtItsString", fn := fun _ => fun
  | [d1, d2, d3] => { results := [.lit (.bool true)], args := [d1, d2, d3] }
  | _ => none }
def fnStringEndLooksOnlyAtItsStringRow : OpenClaim := { program := "qxb6600491a", sum := "1e0c66a2a0ea0a56e7e4f6a78ed82c8f869dcc26dfb3ca32d6d4378bc5f71bee", func := "example.com/vestwright/vestwright/zzlaws_root_b1.FnStringEndLooksOnlyAtItsString", spec := "fnStringEndLooksOnlyAtItsString", inPlace := ["internal/abi.NoEscape", "internal/bytealg.MakeNoZero"], apart := false }
def FnStringEndLooksOnlyAtItsStringSaid : Prop := fnStringEndLooksOnlyAtItsStringRow.holds Try.pinned (OpenSpec.ofChange fnStringEndLooksOnlyAtItsStringSpec)

/-- ITS FALSE NEIGHBOUR: 'it returns false'. Refute it at one input. -/
def fnStringEndLooksOnlyAtItsStringWrong : ChangeSpec := { name := "fnStringEndLooksOnlyAtItsString", fn := fun _ => fun
  | [d1, d2, d3] => { results := [.lit (.bool false)], args := [d1, d2, d3] }
  | _ => none }
def FnStringEndLooksOnlyAtItsStringWrongFalsely : Prop := fnStringEndLooksOnlyAtItsStringRow.holds Try.pinned (OpenSpec.ofChange fnStringEndLooksOnlyAtItsStringWrong)

/-- 'zzlaws_root_b1.FnCutTwiceIsCutShorter': WHATEVER THE INPUT: true; the input reads as it did. -/
def fnCutTwiceIsCutShorterSpec : ChangeSpec := { name := "fnCutTwiceIsCutShorter", fn := fun _ => fun
  | [d1, d2, d3] => { results := [.lit (.bool true)], args := [d1, d2, d3] }
  | _ => none }
def fnCutTwiceIsCutShorterRow : OpenClaim := { program := "qxb6600491a", sum := "1e0c66a2a0ea0a56e7e4f6a78ed82c8f869dcc26dfb3ca32d6d4378bc5f71bee", func := "example.com/vestwright/vestwright/zzlaws_root_b1.FnCutTwiceIsCutShorter", spec := "fnCutTwiceIsCutShorter", apart := false }
def FnCutTwiceIsCutShorterSaid : Prop := fnCutTwiceIsCutShorterRow.holds Try.pinned (OpenSpec.ofChange fnCutTwiceIsCutShorterSpec)

/-- ITS FALSE NEIGHBOUR: 'it returns false'. Refute it at one input. -/
def fnCutTwiceIsCutShorterWrong : ChangeSpec := { name := "fnCutTwiceIsCutShorter", fn := fun _ => fun
  | [d1, d2, d3] => { results := [.lit (.bool false)], args := [d1, d2, d3] }
  | _ => none }
def FnCutTwiceIsCutShorterWrongFalsely : Prop := fnCutTwiceIsCutShorterRow.holds Try.pinned (OpenSpec.ofChange fnCutTwiceIsCutShorterWrong)

/-- 'zzlaws_root_b1.FnSameFieldsMatchesEncoding': WHATEVER THE INPUT: true; the input reads as it did. -/
def fnSameFieldsMatchesEncodingSpec : ChangeSpec := { name := "fnSameFieldsMatchesEncoding", fn := fun _ => fun
  | [d1, d2] => { results := [.lit (.bool true)], args := [d1, d2] }
  | _ => none }
def fnSameFieldsMatchesEncodingRow : OpenClaim := { program := "qxb6600491a", sum := "1e0c66a2a0ea0a56e7e4f6a78ed82c8f869dcc26dfb3ca32d6d4378bc5f71bee", func := "example.com/vestwright/vestwright/zzlaws_root_b1.FnSameFieldsMatchesEncoding", spec := "fnSameFieldsMatchesEncoding", apart := false }
def FnSameFieldsMatchesEncodingSaid : Prop := fnSameFieldsMatchesEncodingRow.holds Try.pinned (OpenSpec.ofChange fnSameFieldsMatchesEncodingSpec)

/-- ITS FALSE NEIGHBOUR: 'it returns false'. Refute it at one input. -/
def fnSameFieldsMatchesEncodingWrong : ChangeSpec := { name := "fnSameFieldsMatchesEncoding", fn := fun _ => fun
  | [d1, d2] => { results := [.lit (.bool false)], args := [d1, d2] }
  | _ => none }
def FnSameFieldsMatchesEncodingWrongFalsely : Prop := fnSameFieldsMatchesEncodingRow.holds Try.pinned (OpenSpec.ofChange fnSameFieldsMatchesEncodingWrong)

/-- 'zzlaws_root_b1.FnSameFieldsIsAnEquivalence': WHATEVER THE INPUT: true; the input reads as it did. -/
def fnSameFieldsIsAnEquivalenceSpec : ChangeSpec := { name := "fnSameFieldsIsAnEquivalence", fn := fun _ => fun
  | [d1, d2, d3] => { results := [.lit (.bool true)], args := [d1, d2, d3] }
  | _ => none }
def fnSameFieldsIsAnEquivalenceRow : OpenClaim := { program := "qxb6600491a", sum := "1e0c66a2a0ea0a56e7e4f6a78ed82c8f869dcc26dfb3ca32d6d4378bc5f71bee", func := "example.com/vestwright/vestwright/zzlaws_root_b1.FnSameFieldsIsAnEquivalence", spec := "fnSameFieldsIsAnEquivalence", apart := false }
def FnSameFieldsIsAnEquivalenceSaid : Prop := fnSameFieldsIsAnEquivalenceRow.holds Try.pinned (OpenSpec.ofChange fnSameFieldsIsAnEquivalenceSpec)

/-- ITS FALSE NEIGHBOUR: 'it returns false'. Refute it at one input. -/
def fnSameFieldsIsAnEquivalenceWrong : ChangeSpec := { name := "fnSameFieldsIsAnEquivalence", fn := fun _ => fun
  | [d1, d2, d3] => { results := [.lit (.bool false)], args := [d1, d2, d3] }
  | _ => none }
def FnSameFieldsIsAnEquivalenceWrongFalsely : Prop := fnSameFieldsIsAnEquivalenceRow.holds Try.pinned (OpenSpec.ofChange fnSameFieldsIsAnEquivalenceWrong)

/-- 'zzlaws_root_b1.FnSameFieldsSeesEveryChange': WHATEVER THE INPUT: true; the input reads as it did. -/
def fnSameFieldsSeesEveryChangeSpec : ChangeSpec := { name := "fnSameFieldsSeesEveryChange", fn := fun _ => fun
  | [d1, d2, d3] => { results := [.lit (.bool true)], args := [d1, d2, d3] }
  | _ => none }
def fnSameFieldsSeesEveryChangeRow : OpenClaim := { program := "qxb6600491a", sum := "1e0c66a2a0ea0a56e7e4f6a78ed82c8f869dcc26dfb3ca32d6d4378bc5f71bee", func := "example.com/vestwright/vestwright/zzlaws_root_b1.FnSameFieldsSeesEveryChange", spec := "fnSameFieldsSeesEveryChange", apart := false }
def FnSameFieldsSeesEveryChangeSaid : Prop := fnSameFieldsSeesEveryChangeRow.holds Try.pinned (OpenSpec.ofChange fnSameFieldsSeesEveryChangeSpec)

/-- ITS FALSE NEIGHBOUR: 'it returns false'. Refute it at one input. -/
def fnSameFieldsSeesEveryChangeWrong : ChangeSpec := { name := "fnSameFieldsSeesEveryChange", fn := fun _ => fun
  | [d1, d2, d3] => { results := [.lit (.bool false)], args := [d1, d2, d3] }
  | _ => none }
def FnSameFieldsSeesEveryChangeWrongFalsely : Prop := fnSameFieldsSeesEveryChangeRow.holds Try.pinned (OpenSpec.ofChange fnSameFieldsSeesEveryChangeWrong)

end Rows
end Go.Proofs.Qxb6600491a
