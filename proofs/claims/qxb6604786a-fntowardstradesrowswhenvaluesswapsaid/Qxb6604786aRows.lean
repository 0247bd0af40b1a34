/-
  No cell of these rows narrows 'for every input' (looked for: loops, veiled, ifaces, maps, wideKeys, modest, calm, conditions, laid).
  DERIVED. THE GIVEN ROWS OF THIS SEAT. 4 by the template 'for every input the law returns true; each argument reads behind the call as it read before'; 0 by the template 'total and deterministic' (their statements: Qxb6604786aTotals.lean).
  GIVEN WITH THE SEED: the statements are not yours to turn. If you find one false, say at which input.
  Laid BY PROGRAM, IN A SANDBOX (cutbox-rows.mjs): the forced cells as the released guide's own fill.sh prints them over the translation aa9a94a48d1563eb… (all of the seat's roots in one cut). By AI agents, Wed Nov 11 2026. No macro, syntax, notation, axiom, sorry.
-/
import Derived.Test.Qxb6604786aChecked
import GoSem.Claim
import GoSem.ClaimJoined
import GoSem.ClaimMapViews
import Derived.JoinedTies
import Derived.KernelRfl
namespace Go.Proofs.Qxb6604786a
/- THE CELL 'sum', in the pinned program and in every row, IS THE sha256 OF THE DUMP (.gsa) THAT Qxb6604786aProg.lean LOADS. Nothing in Lean hashes anything: it is a label: what it is worth is what the hold of that sum in a sandbox is worth. -/
noncomputable def Try.pinned : Pinned := { name := "qxb6604786a", sum := "aa9a94a48d1563eb05b3908f0d3b338c5a378f423337db85086e706b5a86b794", checked := Try.checked }
namespace Rows
def none {H : Type} : Left H := { results := [], args := [] }

/-- 'zzlaws_internal_explore_b1.FnGraphIsStableGroupingByHead': WHATEVER THE INPUT: true; the input reads as it did. -/
def fnGraphIsStableGroupingByHeadSpec : ChangeSpec := { name := "fnGraphIsStableGroupingByHead", fn := fun _ => fun
  | [d1, d2, d3] => { results := [.lit (.bool true)], args := [d1, d2, d3] }
  | _ => none }
def fnGraphIsStableGroupingByHeadRow : OpenClaim := { program := "qxb6604786a", sum := "aa9a94a48d1563eb05b3908f0d3b338c5a378f423337db85086e706b5a86b794", func := "example.com/freechoice/freechoice/zzlaws_internal_explore_b1.FnGraphIsStableGroupingByHead", spec := "fnGraphIsStableGroupingByHead", apart := false }
def FnGraphIsStableGroupingByHeadSaid : Prop := fnGraphIsStableGroupingByHeadRow.holds Try.pinned (OpenSpec.ofChange fnGraphIsStableGroupingByHeadSpec)

/-- ITS FALSE NEIGHBOUR: 'it returns false'. Refute it at one input. -/
def fnGraphIsStableGroupingByHeadWrong : ChangeSpec := { name := "fnGraphIsStableGroupingByHead", fn := fun _ => fun
  | [d1, d2, d3] => { results := [.lit (.bool false)], args := [d1, d2, d3] }
  | _ => none }
def FnGraphIsStableGroupingByHeadWrongFalsely : Prop := fnGraphIsStableGroupingByHeadRow.holds Try.pinned (OpenSpec.ofChange fnGraphIsStableGroupingByHeadWrong)

/-- 'zzlaws_internal_explore_b1.FnGraphOfJoinedArcListsJoinsEachList': WHATEVER THE INPUT: true; the input reads as it did. -/
def fnGraphOfJoinedArcListsJoinsEachListSpec : ChangeSpec := { name := "fnGraphOfJoinedArcListsJoinsEachList", fn := fun _ => fun
  | [d1, d2, d3, d4, d5] => { results := [.lit (.bool true)], args := [d1, d2, d3, d4, d5] }
  | _ => none }
def fnGraphOfJoinedArcListsJoinsEachListRow : OpenClaim := { program := "qxb6604786a", sum := "aa9a94a48d1563eb05b3908f0d3b338c5a378f423337db85086e706b5a86b794", func := "example.com/freechoice/freechoice/zzlaws_internal_explore_b1.FnGraphOfJoinedArcListsJoinsEachList", spec := "fnGraphOfJoinedArcListsJoinsEachList", apart := false }
def FnGraphOfJoinedArcListsJoinsEachListSaid : Prop := fnGraphOfJoinedArcListsJoinsEachListRow.holds Try.pinned (OpenSpec.ofChange fnGraphOfJoinedArcListsJoinsEachListSpec)

/-- ITS FALSE NEIGHBOUR: 'it returns false'. Refute it at one input. -/
def fnGraphOfJoinedArcListsJoinsEachListWrong : ChangeSpec := { name := "fnGraphOfJoinedArcListsJoinsEachList", fn := fun _ => fun
  | [d1, d2, d3, d4, d5] => { results := [.lit (.bool false)], args := [d1, d2, d3, d4, d5] }
  | _ => none }
def FnGraphOfJoinedArcListsJoinsEachListWrongFalsely : Prop := fnGraphOfJoinedArcListsJoinsEachListRow.holds Try.pinned (OpenSpec.ofChange fnGraphOfJoinedArcListsJoinsEachListWrong)

/-- 'zzlaws_internal_explore_b1.FnTowardsSetsShortestDistanceToEachValuesOutputs': WHATEVER THE INPUT: true; the input reads as it did. -/
def fnTowardsSetsShortestDistanceToEachValuesOutputsSpec : ChangeSpec := { name := "fnTowardsSetsShortestDistanceToEachValuesOutputs", fn := fun _ => fun
  | [d1, d2, d3, d4, d5, d6, d7] => { results := [.lit (.bool true)], args := [d1, d2, d3, d4, d5, d6, d7] }
  | _ => none }
def fnTowardsSetsShortestDistanceToEachValuesOutputsRow : OpenClaim := { program := "qxb6604786a", sum := "aa9a94a48d1563eb05b3908f0d3b338c5a378f423337db85086e706b5a86b794", func := "example.com/freechoice/freechoice/zzlaws_internal_explore_b1.FnTowardsSetsShortestDistanceToEachValuesOutputs", spec := "fnTowardsSetsShortestDistanceToEachValuesOutputs", apart := false }
def FnTowardsSetsShortestDistanceToEachValuesOutputsSaid : Prop := fnTowardsSetsShortestDistanceToEachValuesOutputsRow.holds Try.pinned (OpenSpec.ofChange fnTowardsSetsShortestDistanceToEachValuesOutputsSpec)

/-- ITS FALSE NEIGHBOUR: 'it returns false'. Refute it at one input. -/
def fnTowardsSetsShortestDistanceToEachValuesOutputsWrong : ChangeSpec := { name := "fnTowardsSetsShortestDistanceToEachValuesOutputs", fn := fun _ => fun
  | [d1, d2, d3, d4, d5, d6, d7] => { results := [.lit (.bool false)], args := [d1, d2, d3, d4, d5, d6, d7] }
  | _ => none }
def FnTowardsSetsShortestDistanceToEachValuesOutputsWrongFalsely : Prop := fnTowardsSetsShortestDistanceToEachValuesOutputsRow.holds Try.pinned (OpenSpec.ofChange fnTowardsSetsShortestDistanceToEachValuesOutputsWrong)

/-- 'zzlaws_internal_explore_b1.FnTowardsTradesRowsWhenValuesSwap': WHATEVER THE INPUT: true; the input reads as it did. -/
def fnTowardsTradesRowsWhenValuesSwapSpec : ChangeSpec := { name := "fnTowardsTradesRowsWhenValuesSwap", fn := fun _ => fun
  | [d1, d2, d3, d4, d5, d6, d7] => { results := [.lit (.bool true)], args := [d1, d2, d3, d4, d5, d6, d7] }
  | _ => none }
def fnTowardsTradesRowsWhenValuesSwapRow : OpenClaim := { program := "qxb6604786a", sum := "aa9a94a48d1563eb05b3908f0d3b338c5a378f423337db85086e706b5a86b794", func := "example.com/freechoice/freechoice/zzlaws_internal_explore_b1.FnTowardsTradesRowsWhenValuesSwap", spec := "fnTowardsTradesRowsWhenValuesSwap", apart := false }
def FnTowardsTradesRowsWhenValuesSwapSaid : Prop := fnTowardsTradesRowsWhenValuesSwapRow.holds Try.pinned (OpenSpec.ofChange fnTowardsTradesRowsWhenValuesSwapSpec)

/-- ITS FALSE NEIGHBOUR: 'it returns false'. Refute it at one input. -/
def fnTowardsTradesRowsWhenValuesSwapWrong : ChangeSpec := { name := "fnTowardsTradesRowsWhenValuesSwap", fn := fun _ => fun
  | [d1, d2, d3, d4, d5, d6, d7] => { results := [.lit (.bool false)], args := [d1, d2, d3, d4, d5, d6, d7] }
  | _ => none }
def FnTowardsTradesRowsWhenValuesSwapWrongFalsely : Prop := fnTowardsTradesRowsWhenValuesSwapRow.holds Try.pinned (OpenSpec.ofChange fnTowardsTradesRowsWhenValuesSwapWrong)

end Rows
end Go.Proofs.Qxb6604786a
