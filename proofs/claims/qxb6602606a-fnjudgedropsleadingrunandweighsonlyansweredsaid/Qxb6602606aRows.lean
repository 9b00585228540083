/-
  No cell of these rows narrows 'for every input' (looked for: loops, veiled, ifaces, maps, wideKeys, modest, calm, conditions, laid).
  DERIVED. THE GIVEN ROWS OF THIS SEAT. 4 by the template 'for every input the law returns true; each argument reads behind the call as it read before'; 0 by the template 'total and deterministic' (their statements: Qxb6602606aTotals.lean).
  GIVEN WITH THE SEED: the statements are not yours to turn. If you find one false, say at which input.
  Laid BY PROGRAM, IN A SANDBOX (cutbox-rows.mjs): the forced cells as the released guide's own fill.sh prints them over the translation a0248070c32dce90… (all of the seat's roots in one cut). By AI agents, Wed Nov 11 2026. No macro, syntax, notation, axiom, sorry.
-/
import Derived.Test.Qxb6602606aChecked
import GoSem.Claim
import GoSem.ClaimJoined
import GoSem.ClaimMapViews
import Derived.JoinedTies
import Derived.KernelRfl
namespace Go.Proofs.Qxb6602606a
/- THE CELL 'sum', in the pinned program and in every row, IS THE sha256 OF THE DUMP (.gsa) THAT Qxb6602606aProg.lean LOADS. Nothing in Lean hashes anything: it is a label: what it is worth is what the hold of that sum in a sandbox is worth. -/
noncomputable def Try.pinned : Pinned := { name := "qxb6602606a", sum := "a0248070c32dce90d88fa8fdb1bd3f50273ece293d52a5124f8dcf5aaaf2052c", checked := Try.checked }
namespace Rows
def none {H : Type} : Left H := { results := [], args := [] }

/-- 'zzlaws_root_b1.FnBatchIsLongestRunWithinLimit': WHATEVER THE INPUT: true; the input reads as it did. -/
def fnBatchIsLongestRunWithinLimitSpec : ChangeSpec := { name := "fnBatchIsLongestRunWithinLimit", fn := fun _ => fun
  | [d1, d2, d3, d4, d5, d6, d7, d8, d9, d10] => { results := [.lit (.bool true)], args := [d1, d2, d3, d4, d5, d6, d7, d8, d9, d10] }
  | _ => none }
def fnBatchIsLongestRunWithinLimitRow : OpenClaim := { program := "qxb6602606a", sum := "a0248070c32dce90d88fa8fdb1bd3f50273ece293d52a5124f8dcf5aaaf2052c", func := "example.com/quorumlog/quorumlog/zzlaws_root_b1.FnBatchIsLongestRunWithinLimit", spec := "fnBatchIsLongestRunWithinLimit", apart := false }
def FnBatchIsLongestRunWithinLimitSaid : Prop := fnBatchIsLongestRunWithinLimitRow.holds Try.pinned (OpenSpec.ofChange fnBatchIsLongestRunWithinLimitSpec)

/-- ITS FALSE NEIGHBOUR: 'it returns false'. Refute it at one input. -/
def fnBatchIsLongestRunWithinLimitWrong : ChangeSpec := { name := "fnBatchIsLongestRunWithinLimit", fn := fun _ => fun
  | [d1, d2, d3, d4, d5, d6, d7, d8, d9, d10] => { results := [.lit (.bool false)], args := [d1, d2, d3, d4, d5, d6, d7, d8, d9, d10] }
  | _ => none }
def FnBatchIsLongestRunWithinLimitWrongFalsely : Prop := fnBatchIsLongestRunWithinLimitRow.holds Try.pinned (OpenSpec.ofChange fnBatchIsLongestRunWithinLimitWrong)

/-- 'zzlaws_root_b1.FnBatchGrowsWithLimit': WHATEVER THE INPUT: true; the input reads as it did. -/
def fnBatchGrowsWithLimitSpec : ChangeSpec := { name := "fnBatchGrowsWithLimit", fn := fun _ => fun
  | [d1, d2, d3, d4, d5, d6, d7, d8, d9, d10, d11] => { results := [.lit (.bool true)], args := [d1, d2, d3, d4, d5, d6, d7, d8, d9, d10, d11] }
  | _ => none }
def fnBatchGrowsWithLimitRow : OpenClaim := { program := "qxb6602606a", sum := "a0248070c32dce90d88fa8fdb1bd3f50273ece293d52a5124f8dcf5aaaf2052c", func := "example.com/quorumlog/quorumlog/zzlaws_root_b1.FnBatchGrowsWithLimit", spec := "fnBatchGrowsWithLimit", apart := false }
def FnBatchGrowsWithLimitSaid : Prop := fnBatchGrowsWithLimitRow.holds Try.pinned (OpenSpec.ofChange fnBatchGrowsWithLimitSpec)

/-- ITS FALSE NEIGHBOUR: 'it returns false'. Refute it at one input. -/
def fnBatchGrowsWithLimitWrong : ChangeSpec := { name := "fnBatchGrowsWithLimit", fn := fun _ => fun
  | [d1, d2, d3, d4, d5, d6, d7, d8, d9, d10, d11] => { results := [.lit (.bool false)], args := [d1, d2, d3, d4, d5, d6, d7, d8, d9, d10, d11] }
  | _ => none }
def FnBatchGrowsWithLimitWrongFalsely : Prop := fnBatchGrowsWithLimitRow.holds Try.pinned (OpenSpec.ofChange fnBatchGrowsWithLimitWrong)

/-- 'zzlaws_root_b1.FnJudgeDropsLeadingRunAndWeighsOnlyAnswered': WHATEVER THE INPUT: true; the input reads as it did. -/
def fnJudgeDropsLeadingRunAndWeighsOnlyAnsweredSpec : ChangeSpec := { name := "fnJudgeDropsLeadingRunAndWeighsOnlyAnswered", fn := fun _ => fun
  | [d1, d2, d3, d4, d5, d6, d7] => { results := [.lit (.bool true)], args := [d1, d2, d3, d4, d5, d6, d7] }
  | _ => none }
def fnJudgeDropsLeadingRunAndWeighsOnlyAnsweredRow : OpenClaim := { program := "qxb6602606a", sum := "a0248070c32dce90d88fa8fdb1bd3f50273ece293d52a5124f8dcf5aaaf2052c", func := "example.com/quorumlog/quorumlog/zzlaws_root_b1.FnJudgeDropsLeadingRunAndWeighsOnlyAnswered", spec := "fnJudgeDropsLeadingRunAndWeighsOnlyAnswered", apart := false }
def FnJudgeDropsLeadingRunAndWeighsOnlyAnsweredSaid : Prop := fnJudgeDropsLeadingRunAndWeighsOnlyAnsweredRow.holds Try.pinned (OpenSpec.ofChange fnJudgeDropsLeadingRunAndWeighsOnlyAnsweredSpec)

/-- ITS FALSE NEIGHBOUR: 'it returns false'. Refute it at one input. -/
def fnJudgeDropsLeadingRunAndWeighsOnlyAnsweredWrong : ChangeSpec := { name := "fnJudgeDropsLeadingRunAndWeighsOnlyAnswered", fn := fun _ => fun
  | [d1, d2, d3, d4, d5, d6, d7] => { results := [.lit (.bool false)], args := [d1, d2, d3, d4, d5, d6, d7] }
  | _ => none }
def FnJudgeDropsLeadingRunAndWeighsOnlyAnsweredWrongFalsely : Prop := fnJudgeDropsLeadingRunAndWeighsOnlyAnsweredRow.holds Try.pinned (OpenSpec.ofChange fnJudgeDropsLeadingRunAndWeighsOnlyAnsweredWrong)

/-- 'zzlaws_root_b1.FnJudgeTwiceIsJudgeOnceAtTheLater': WHATEVER THE INPUT: true; the input reads as it did. -/
def fnJudgeTwiceIsJudgeOnceAtTheLaterSpec : ChangeSpec := { name := "fnJudgeTwiceIsJudgeOnceAtTheLater", fn := fun _ => fun
  | [d1, d2, d3, d4, d5, d6, d7, d8] => { results := [.lit (.bool true)], args := [d1, d2, d3, d4, d5, d6, d7, d8] }
  | _ => none }
def fnJudgeTwiceIsJudgeOnceAtTheLaterRow : OpenClaim := { program := "qxb6602606a", sum := "a0248070c32dce90d88fa8fdb1bd3f50273ece293d52a5124f8dcf5aaaf2052c", func := "example.com/quorumlog/quorumlog/zzlaws_root_b1.FnJudgeTwiceIsJudgeOnceAtTheLater", spec := "fnJudgeTwiceIsJudgeOnceAtTheLater", apart := false }
def FnJudgeTwiceIsJudgeOnceAtTheLaterSaid : Prop := fnJudgeTwiceIsJudgeOnceAtTheLaterRow.holds Try.pinned (OpenSpec.ofChange fnJudgeTwiceIsJudgeOnceAtTheLaterSpec)

/-- ITS FALSE NEIGHBOUR: 'it returns false'. Refute it at one input. -/
def fnJudgeTwiceIsJudgeOnceAtTheLaterWrong : ChangeSpec := { name := "fnJudgeTwiceIsJudgeOnceAtTheLater", fn := fun _ => fun
  | [d1, d2, d3, d4, d5, d6, d7, d8] => { results := [.lit (.bool false)], args := [d1, d2, d3, d4, d5, d6, d7, d8] }
  | _ => none }
def FnJudgeTwiceIsJudgeOnceAtTheLaterWrongFalsely : Prop := fnJudgeTwiceIsJudgeOnceAtTheLaterRow.holds Try.pinned (OpenSpec.ofChange fnJudgeTwiceIsJudgeOnceAtTheLaterWrong)

end Rows
end Go.Proofs.Qxb6602606a
