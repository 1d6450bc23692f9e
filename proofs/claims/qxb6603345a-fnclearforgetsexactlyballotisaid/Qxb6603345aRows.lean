/-
  No cell of these rows narrows 'for every input' (looked for: loops, veiled, ifaces, maps, wideKeys, modest, calm, conditions, laid).
  DERIVED. THE GIVEN ROWS OF THIS SEAT. 7 by the template 'for every input the law returns true; each argument reads behind the call as it read before'; 0 by the template 'total and deterministic' (their statements: Qxb6603345aTotals.lean).
  GIVEN WITH THE SEED: the statements are not yours to turn. If you find one false, say at which input.
  Laid BY PROGRAM, IN A SANDBOX (cutbox-rows.mjs): the forced cells as the released guide's own fill.sh prints them over the translation cd5f215151a12fac… (all of the seat's roots in one cut). By AI agents, Wed Nov 11 2026. No macro, syntax, notation, axiom, sorry.
-/
import Derived.Test.Qxb6603345aChecked
import GoSem.Claim
import GoSem.ClaimJoined
import GoSem.ClaimMapViews
import Derived.JoinedTies
import Derived.KernelRfl
namespace Go.Proofs.Qxb6603345a
/- THE CELL 'sum', in the pinned program and in every row, IS THE sha256 OF THE DUMP (.gsa) THAT Qxb6603345aProg.lean LOADS. Nothing in Lean hashes anything: it is a label: what it is worth is what the hold of that sum in a sandbox is worth. -/
noncomputable def Try.pinned : Pinned := { name := "qxb6603345a", sum := "cd5f215151a12fac9d88fbdaec48353d171afa826190ba1fda7d7ea88217e2ec", checked := Try.checked }
namespace Rows
def none {H : Type} : Left H := { results := [], args := [] }

/-- 'zzlaws_internal_votes_b1.FnNewMarksSizedExactly': WHATEVER THE INPUT: true; the input reads as it did. -/
def fnNewMarksSizedExactlySpec : ChangeSpec := { name := "fnNewMarksSizedExactly", fn := fun _ => fun
  | [d1, d2] => { results := [.lit (.bool true)], args := [d1, d2] }
  | _ => none }
def fnNewMarksSizedExactlyRow : OpenClaim := { program := "qxb6603345a", sum := "cd5f215151a12fac9d88fbdaec48353d171afa826190ba1fda7d7ea88217e2ec", func := "example.com/cumulant/cumulant/zzlaws_internal_votes_b1.FnNewMarksSizedExactly", spec := "fnNewMarksSizedExactly", apart := false }
def FnNewMarksSizedExactlySaid : Prop := fnNewMarksSizedExactlyRow.holds Try.pinned (OpenSpec.ofChange fnNewMarksSizedExactlySpec)

/-- ITS FALSE NEIGHBOUR: 'it returns false'. Refute it at one input. -/
def fnNewMarksSizedExactlyWrong : ChangeSpec := { name := "fnNewMarksSizedExactly", fn := fun _ => fun
  | [d1, d2] => { results := [.lit (.bool false)], args := [d1, d2] }
  | _ => none }
def FnNewMarksSizedExactlyWrongFalsely : Prop := fnNewMarksSizedExactlyRow.holds Try.pinned (OpenSpec.ofChange fnNewMarksSizedExactlyWrong)

/-- 'zzlaws_internal_votes_b1.FnNewMarksRoomForEveryBallot': WHATEVER THE INPUT: true; the input reads as it did. -/
def fnNewMarksRoomForEveryBallotSpec : ChangeSpec := { name := "fnNewMarksRoomForEveryBallot", fn := fun _ => fun
  | [d1, d2, d3] => { results := [.lit (.bool true)], args := [d1, d2, d3] }
  | _ => none }
def fnNewMarksRoomForEveryBallotRow : OpenClaim := { program := "qxb6603345a", sum := "cd5f215151a12fac9d88fbdaec48353d171afa826190ba1fda7d7ea88217e2ec", func := "example.com/cumulant/cumulant/zzlaws_internal_votes_b1.FnNewMarksRoomForEveryBallot", spec := "fnNewMarksRoomForEveryBallot", apart := false }
def FnNewMarksRoomForEveryBallotSaid : Prop := fnNewMarksRoomForEveryBallotRow.holds Try.pinned (OpenSpec.ofChange fnNewMarksRoomForEveryBallotSpec)

/-- ITS FALSE NEIGHBOUR: 'it returns false'. Refute it at one input. -/
def fnNewMarksRoomForEveryBallotWrong : ChangeSpec := { name := "fnNewMarksRoomForEveryBallot", fn := fun _ => fun
  | [d1, d2, d3] => { results := [.lit (.bool false)], args := [d1, d2, d3] }
  | _ => none }
def FnNewMarksRoomForEveryBallotWrongFalsely : Prop := fnNewMarksRoomForEveryBallotRow.holds Try.pinned (OpenSpec.ofChange fnNewMarksRoomForEveryBallotWrong)

/-- 'zzlaws_internal_votes_b1.FnClearForgetsExactlyBallotI': WHATEVER THE INPUT: true; the input reads as it did. -/
def fnClearForgetsExactlyBallotISpec : ChangeSpec := { name := "fnClearForgetsExactlyBallotI", fn := fun _ => fun
  | [d1, d2, d3] => { results := [.lit (.bool true)], args := [d1, d2, d3] }
  | _ => none }
def fnClearForgetsExactlyBallotIRow : OpenClaim := { program := "qxb6603345a", sum := "cd5f215151a12fac9d88fbdaec48353d171afa826190ba1fda7d7ea88217e2ec", func := "example.com/cumulant/cumulant/zzlaws_internal_votes_b1.FnClearForgetsExactlyBallotI", spec := "fnClearForgetsExactlyBallotI", apart := false }
def FnClearForgetsExactlyBallotISaid : Prop := fnClearForgetsExactlyBallotIRow.holds Try.pinned (OpenSpec.ofChange fnClearForgetsExactlyBallotISpec)

/-- ITS FALSE NEIGHBOUR: 'it returns false'. Refute it at one input. -/
def fnClearForgetsExactlyBallotIWrong : ChangeSpec := { name := "fnClearForgetsExactlyBallotI", fn := fun _ => fun
  | [d1, d2, d3] => { results := [.lit (.bool false)], args := [d1, d2, d3] }
  | _ => none }
def FnClearForgetsExactlyBallotIWrongFalsely : Prop := fnClearForgetsExactlyBallotIRow.holds Try.pinned (OpenSpec.ofChange fnClearForgetsExactlyBallotIWrong)

/-- 'zzlaws_internal_votes_b1.FnClearOrderFreeAndIdempotent': WHATEVER THE INPUT: true; the input reads as it did. -/
def fnClearOrderFreeAndIdempotentSpec : ChangeSpec := { name := "fnClearOrderFreeAndIdempotent", fn := fun _ => fun
  | [d1, d2, d3, d4] => { results := [.lit (.bool true)], args := [d1, d2, d3, d4] }
  | _ => none }
def fnClearOrderFreeAndIdempotentRow : OpenClaim := { program := "qxb6603345a", sum := "cd5f215151a12fac9d88fbdaec48353d171afa826190ba1fda7d7ea88217e2ec", func := "example.com/cumulant/cumulant/zzlaws_internal_votes_b1.FnClearOrderFreeAndIdempotent", spec := "fnClearOrderFreeAndIdempotent", apart := false }
def FnClearOrderFreeAndIdempotentSaid : Prop := fnClearOrderFreeAndIdempotentRow.holds Try.pinned (OpenSpec.ofChange fnClearOrderFreeAndIdempotentSpec)

/-- ITS FALSE NEIGHBOUR: 'it returns false'. Refute it at one input. -/
def fnClearOrderFreeAndIdempotentWrong : ChangeSpec := { name := "fnClearOrderFreeAndIdempotent", fn := fun _ => fun
  | [d1, d2, d3, d4] => { results := [.lit (.bool false)], args := [d1, d2, d3, d4] }
  | _ => none }
def FnClearOrderFreeAndIdempotentWrongFalsely : Prop := fnClearOrderFreeAndIdempotentRow.holds Try.pinned (OpenSpec.ofChange fnClearOrderFreeAndIdempotentWrong)

/-- 'zzlaws_internal_votes_b1.FnJudgeFollowsRulebook': WHATEVER THE INPUT: true; the input reads as it did. -/
def fnJudgeFollowsRulebookSpec : ChangeSpec := { name := "fnJudgeFollowsRulebook", fn := fun _ => fun
  | [d1, d2, d3, d4, d5, d6, d7, d8, d9] => { results := [.lit (.bool true)], args := [d1, d2, d3, d4, d5, d6, d7, d8, d9] }
  | _ => none }
def fnJudgeFollowsRulebookRow : OpenClaim := { program := "qxb6603345a", sum := "cd5f215151a12fac9d88fbdaec48353d171afa826190ba1fda7d7ea88217e2ec", func := "example.com/cumulant/cumulant/zzlaws_internal_votes_b1.FnJudgeFollowsRulebook", spec := "fnJudgeFollowsRulebook", apart := false }
def FnJudgeFollowsRulebookSaid : Prop := fnJudgeFollowsRulebookRow.holds Try.pinned (OpenSpec.ofChange fnJudgeFollowsRulebookSpec)

/-- ITS FALSE NEIGHBOUR: 'it returns false'. Refute it at one input. -/
def fnJudgeFollowsRulebookWrong : ChangeSpec := { name := "fnJudgeFollowsRulebook", fn := fun _ => fun
  | [d1, d2, d3, d4, d5, d6, d7, d8, d9] => { results := [.lit (.bool false)], args := [d1, d2, d3, d4, d5, d6, d7, d8, d9] }
  | _ => none }
def FnJudgeFollowsRulebookWrongFalsely : Prop := fnJudgeFollowsRulebookRow.holds Try.pinned (OpenSpec.ofChange fnJudgeFollowsRulebookWrong)

/-- 'zzlaws_internal_votes_b1.FnJudgeLastDecisionStands': WHATEVER THE INPUT: true; the input reads as it did. -/
def fnJudgeLastDecisionStandsSpec : ChangeSpec := { name := "fnJudgeLastDecisionStands", fn := fun _ => fun
  | [d1, d2, d3, d4, d5, d6, d7, d8, d9, d10, d11, d12] => { results := [.lit (.bool true)], args := [d1, d2, d3, d4, d5, d6, d7, d8, d9, d10, d11, d12] }
  | _ => none }
def fnJudgeLastDecisionStandsRow : OpenClaim := { program := "qxb6603345a", sum := "cd5f215151a12fac9d88fbdaec48353d171afa826190ba1fda7d7ea88217e2ec", func := "example.com/cumulant/cumulant/zzlaws_internal_votes_b1.FnJudgeLastDecisionStands", spec := "fnJudgeLastDecisionStands", apart := false }
def FnJudgeLastDecisionStandsSaid : Prop := fnJudgeLastDecisionStandsRow.holds Try.pinned (OpenSpec.ofChange fnJudgeLastDecisionStandsSpec)

/-- ITS FALSE NEIGHBOUR: 'it returns false'. Refute it at one input. -/
def fnJudgeLastDecisionStandsWrong : ChangeSpec := { name := "fnJudgeLastDecisionStands", fn := fun _ => fun
  | [d1, d2, d3, d4, d5, d6, d7, d8, d9, d10, d11, d12] => { results := [.lit (.bool false)], args := [d1, d2, d3, d4, d5, d6, d7, d8, d9, d10, d11, d12] }
  | _ => none }
def FnJudgeLastDecisionStandsWrongFalsely : Prop := fnJudgeLastDecisionStandsRow.holds Try.pinned (OpenSpec.ofChange fnJudgeLastDecisionStandsWrong)

/-- 'zzlaws_internal_votes_b1.FnJudgeLooserRulesVoidNoMore': WHATEVER THE INPUT: true; the input reads as it did. -/
def fnJudgeLooserRulesVoidNoMoreSpec : ChangeSpec := { name := "fnJudgeLooserRulesVoidNoMore", fn := fun _ => fun
  | [d1, d2, d3, d4, d5, d6, d7, d8, d9, d10, d11] => { results := [.lit (.bool true)], args := [d1, d2, d3, d4, d5, d6, d7, d8, d9, d10, d11] }
  | _ => none }
def fnJudgeLooserRulesVoidNoMoreRow : OpenClaim := { program := "qxb6603345a", sum := "cd5f215151a12fac9d88fbdaec48353d171afa826190ba1fda7d7ea88217e2ec", func := "example.com/cumulant/cumulant/zzlaws_internal_votes_b1.FnJudgeLooserRulesVoidNoMore", spec := "fnJudgeLooserRulesVoidNoMore", apart := false }
def FnJudgeLooserRulesVoidNoMoreSaid : Prop := fnJudgeLooserRulesVoidNoMoreRow.holds Try.pinned (OpenSpec.ofChange fnJudgeLooserRulesVoidNoMoreSpec)

/-- ITS FALSE NEIGHBOUR: 'it returns false'. Refute it at one input. -/
def fnJudgeLooserRulesVoidNoMoreWrong : ChangeSpec := { name := "fnJudgeLooserRulesVoidNoMore", fn := fun _ => fun
  | [d1, d2, d3, d4, d5, d6, d7, d8, d9, d10, d11] => { results := [.lit (.bool false)], args := [d1, d2, d3, d4, d5, d6, d7, d8, d9, d10, d11] }
  | _ => none }
def FnJudgeLooserRulesVoidNoMoreWrongFalsely : Prop := fnJudgeLooserRulesVoidNoMoreRow.holds Try.pinned (OpenSpec.ofChange fnJudgeLooserRulesVoidNoMoreWrong)

end Rows
end Go.Proofs.Qxb6603345a
