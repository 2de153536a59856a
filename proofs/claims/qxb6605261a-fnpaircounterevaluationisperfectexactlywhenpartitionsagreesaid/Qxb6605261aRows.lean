/-
  No cell of these rows narrows 'for every input' (looked for: loops, veiled, ifaces, maps, wideKeys, modest, calm, conditions, laid).
  DERIVED. THE GIVEN ROWS OF THIS SEAT. 4 by the template 'for every input the law returns true; each argument reads behind the call as it read before'; 0 by the template 'total and deterministic' (their statements: Qxb6605261aTotals.lean).
  GIVEN WITH THE SEED: the statements are not yours to turn. If you find one false, say at which input.
  Laid BY PROGRAM, IN A SANDBOX (cutbox-rows.mjs): the forced cells as the released guide's own fill.sh prints them over the translation 257c100ee1da0495… (all of the seat's roots in one cut). By AI agents, Wed Nov 11 2026. No macro, syntax, notation, axiom, sorry.
-/
import Derived.Test.Qxb6605261aChecked
import GoSem.Claim
import GoSem.ClaimJoined
import GoSem.ClaimMapViews
import Derived.JoinedTies
import Derived.KernelRfl
namespace Go.Proofs.Qxb6605261a
/- THE CELL 'sum', in the pinned program and in every row, IS THE sha256 OF THE DUMP (.gsa) THAT Qxb6605261aProg.lean LOADS. Nothing in Lean hashes anything: it is a label: what it is worth is what the hold of that sum in a sandbox is worth. -/
noncomputable def Try.pinned : Pinned := { name := "qxb6605261a", sum := "257c100ee1da0495664c86a3201f5467336d2b2b538fbb3fdf443dfcf25f42cc", checked := Try.checked }
namespace Rows
def none {H : Type} : Left H := { results := [], args := [] }

/-- 'zzlaws_internal_engine_b1.FnPairCounterCountsEveryPair': WHATEVER THE INPUT: true; the input reads as it did. -/
def fnPairCounterCountsEveryPairSpec : ChangeSpec := { name := "fnPairCounterCountsEveryPair", fn := fun _ => fun
  | [d1, d2] => { results := [.lit (.bool true)], args := [d1, d2] }
  | _ => none }
def fnPairCounterCountsEveryPairRow : OpenClaim := { program := "qxb6605261a", sum := "257c100ee1da0495664c86a3201f5467336d2b2b538fbb3fdf443dfcf25f42cc", func := "example.com/doppel/doppel/zzlaws_internal_engine_b1.FnPairCounterCountsEveryPair", spec := "fnPairCounterCountsEveryPair", plainKeys := false, apart := false }
def FnPairCounterCountsEveryPairSaid : Prop := fnPairCounterCountsEveryPairRow.holds Try.pinned (OpenSpec.ofChange fnPairCounterCountsEveryPairSpec)

/-- ITS FALSE NEIGHBOUR: 'it returns false'. Refute it at one input. -/
def fnPairCounterCountsEveryPairWrong : ChangeSpec := { name := "fnPairCounterCountsEveryPair", fn := fun _ => fun
  | [d1, d2] => { results := [.lit (.bool false)], args := [d1, d2] }
  | _ => none }
def FnPairCounterCountsEveryPairWrongFalsely : Prop := fnPairCounterCountsEveryPairRow.holds Try.pinned (OpenSpec.ofChange fnPairCounterCountsEveryPairWrong)

/-- 'zzlaws_internal_engine_b1.FnPairCounterEvaluationIsPerfectExactlyWhenPartitionsAgree': WHATEVER THE INPUT: true; the input reads as it did. -/
def fnPairCounterEvaluationIsPerfectExactlyWhenPartitionsAgreeSpec : ChangeSpec := { name := "fnPairCounterEvaluationIsPerfectExactlyWhenPartitionsAgree", fn := fun _ => fun
  | [d1, d2] => { results := [.lit (.bool true)], args := [d1, d2] }
  | _ => none }
def fnPairCounterEvaluationIsPerfectExactlyWhenPartitionsAgreeRow : OpenClaim := { program := "qxb6605261a", sum := "257c100ee1da0495664c86a3201f5467336d2b2b538fbb3fdf443dfcf25f42cc", func := "example.com/doppel/doppel/zzlaws_internal_engine_b1.FnPairCounterEvaluationIsPerfectExactlyWhenPartitionsAgree", spec := "fnPairCounterEvaluationIsPerfectExactlyWhenPartitionsAgree", plainKeys := false, apart := false }
def FnPairCounterEvaluationIsPerfectExactlyWhenPartitionsAgreeSaid : Prop := fnPairCounterEvaluationIsPerfectExactlyWhenPartitionsAgreeRow.holds Try.pinned (OpenSpec.ofChange fnPairCounterEvaluationIsPerfectExactlyWhenPartitionsAgreeSpec)

/-- ITS FALSE NEIGHBOUR: 'it returns false'. Refute it at one input. -/
def fnPairCounterEvaluationIsPerfectExactlyWhenPartitionsAgreeWrong : ChangeSpec := { name := "fnPairCounterEvaluationIsPerfectExactlyWhenPartitionsAgree", fn := fun _ => fun
  | [d1, d2] => { results := [.lit (.bool false)], args := [d1, d2] }
  | _ => none }
def FnPairCounterEvaluationIsPerfectExactlyWhenPartitionsAgreeWrongFalsely : Prop := fnPairCounterEvaluationIsPerfectExactlyWhenPartitionsAgreeRow.holds Try.pinned (OpenSpec.ofChange fnPairCounterEvaluationIsPerfectExactlyWhenPartitionsAgreeWrong)

/-- 'zzlaws_internal_engine_b1.FnNewEvaluationMatchesPairRatios': WHATEVER THE INPUT: true; the input reads as it did. -/
def fnNewEvaluationMatchesPairRatiosSpec : ChangeSpec := { name := "fnNewEvaluationMatchesPairRatios", fn := fun _ => fun
  | [d1, d2, d3, d4] => { results := [.lit (.bool true)], args := [d1, d2, d3, d4] }
  | _ => none }
def fnNewEvaluationMatchesPairRatiosRow : OpenClaim := { program := "qxb6605261a", sum := "257c100ee1da0495664c86a3201f5467336d2b2b538fbb3fdf443dfcf25f42cc", func := "example.com/doppel/doppel/zzlaws_internal_engine_b1.FnNewEvaluationMatchesPairRatios", spec := "fnNewEvaluationMatchesPairRatios", plainKeys := false, apart := false }
def FnNewEvaluationMatchesPairRatiosSaid : Prop := fnNewEvaluationMatchesPairRatiosRow.holds Try.pinned (OpenSpec.ofChange fnNewEvaluationMatchesPairRatiosSpec)

/-- ITS FALSE NEIGHBOUR: 'it returns false'. Refute it at one input. -/
def fnNewEvaluationMatchesPairRatiosWrong : ChangeSpec := { name := "fnNewEvaluationMatchesPairRatios", fn := fun _ => fun
  | [d1, d2, d3, d4] => { results := [.lit (.bool false)], args := [d1, d2, d3, d4] }
  | _ => none }
def FnNewEvaluationMatchesPairRatiosWrongFalsely : Prop := fnNewEvaluationMatchesPairRatiosRow.holds Try.pinned (OpenSpec.ofChange fnNewEvaluationMatchesPairRatiosWrong)

/-- 'zzlaws_internal_engine_b1.FnNewEvaluationSwapsPrecisionAndRecall': WHATEVER THE INPUT: true; the input reads as it did. -/
def fnNewEvaluationSwapsPrecisionAndRecallSpec : ChangeSpec := { name := "fnNewEvaluationSwapsPrecisionAndRecall", fn := fun _ => fun
  | [d1, d2, d3, d4] => { results := [.lit (.bool true)], args := [d1, d2, d3, d4] }
  | _ => none }
def fnNewEvaluationSwapsPrecisionAndRecallRow : OpenClaim := { program := "qxb6605261a", sum := "257c100ee1da0495664c86a3201f5467336d2b2b538fbb3fdf443dfcf25f42cc", func := "example.com/doppel/doppel/zzlaws_internal_engine_b1.FnNewEvaluationSwapsPrecisionAndRecall", spec := "fnNewEvaluationSwapsPrecisionAndRecall", plainKeys := false, apart := false }
def FnNewEvaluationSwapsPrecisionAndRecallSaid : Prop := fnNewEvaluationSwapsPrecisionAndRecallRow.holds Try.pinned (OpenSpec.ofChange fnNewEvaluationSwapsPrecisionAndRecallSpec)

/-- ITS FALSE NEIGHBOUR: 'it returns false'. Refute it at one input. -/
def fnNewEvaluationSwapsPrecisionAndRecallWrong : ChangeSpec := { name := "fnNewEvaluationSwapsPrecisionAndRecall", fn := fun _ => fun
  | [d1, d2, d3, d4] => { results := [.lit (.bool false)], args := [d1, d2, d3, d4] }
  | _ => none }
def FnNewEvaluationSwapsPrecisionAndRecallWrongFalsely : Prop := fnNewEvaluationSwapsPrecisionAndRecallRow.holds Try.pinned (OpenSpec.ofChange fnNewEvaluationSwapsPrecisionAndRecallWrong)

end Rows
end Go.Proofs.Qxb6605261a
