/-
  No cell of these rows narrows 'for every input' (looked for: loops, veiled, ifaces, maps, wideKeys, modest, calm, conditions, laid).
  DERIVED. THE GIVEN ROWS OF THIS SEAT. 3 by the template 'for every input the law returns true; each argument reads behind the call as it read before'; 0 by the template 'total and deterministic' (their statements: Qxb6604187aTotals.lean).
  GIVEN WITH THE SEED: the statements are not yours to turn. If you find one false, say at which input.
  Laid BY PROGRAM, IN A SANDBOX (cutbox-rows.mjs): the forced cells as the released guide's own fill.sh prints them over the translation 4e0396d86f36ee2a… (all of the seat's roots in one cut). By AI agents, Wed Nov 11 2026. No macro, syntax, notation, axiom, sorry.
-/
import Derived.Test.Qxb6604187aChecked
import GoSem.Claim
import GoSem.ClaimJoined
import GoSem.ClaimMapViews
import Derived.JoinedTies
import Derived.KernelRfl
namespace Go.Proofs.Qxb6604187a
/- THE CELL 'sum', in the pinned program and in every row, IS THE sha256 OF THE DUMP (.gsa) THAT Qxb6604187aProg.lean LOADS. Nothing in Lean hashes anything: it is a label: what it is worth is what the hold of that sum in a sandbox is worth. -/
noncomputable def Try.pinned : Pinned := { name := "qxb6604187a", sum := "4e0396d86f36ee2a437dffdd0c6d8f2c433c5c41b664538720e2f2fb31b94d07", checked := Try.checked }
namespace Rows
def none {H : Type} : Left H := { results := [], args := [] }

/-- 'zzlaws_check_b1.FnReplicaOrderMatchesPairModel': WHATEVER THE INPUT: true; the input reads as it did. -/
def fnReplicaOrderMatchesPairModelSpec : ChangeSpec := { name := "fnReplicaOrderMatchesPairModel", fn := fun _ => fun
  | [d1, d2, d3] => { results := [.lit (.bool true)], args := [d1, d2, d3] }
  | _ => none }
def fnReplicaOrderMatchesPairModelRow : OpenClaim := { program := "qxb6604187a", sum := "4e0396d86f36ee2a437dffdd0c6d8f2c433c5c41b664538720e2f2fb31b94d07", func := "example.com/fivefold/fivefold/zzlaws_check_b1.FnReplicaOrderMatchesPairModel", spec := "fnReplicaOrderMatchesPairModel", unfollowed := true, recurses := true, plainKeys := false, apart := false }
def FnReplicaOrderMatchesPairModelSaid : Prop := fnReplicaOrderMatchesPairModelRow.holds Try.pinned (OpenSpec.ofChange fnReplicaOrderMatchesPairModelSpec)

/-- ITS FALSE NEIGHBOUR: 'it returns false'. Refute it at one input. -/
def fnReplicaOrderMatchesPairModelWrong : ChangeSpec := { name := "fnReplicaOrderMatchesPairModel", fn := fun _ => fun
  | [d1, d2, d3] => { results := [.lit (.bool false)], args := [d1, d2, d3] }
  | _ => none }
def FnReplicaOrderMatchesPairModelWrongFalsely : Prop := fnReplicaOrderMatchesPairModelRow.holds Try.pinned (OpenSpec.ofChange fnReplicaOrderMatchesPairModelWrong)

/-- 'zzlaws_check_b1.FnSessionFirstMatchesPairModel': WHATEVER THE INPUT: true; the input reads as it did. -/
def fnSessionFirstMatchesPairModelSpec : ChangeSpec := { name := "fnSessionFirstMatchesPairModel", fn := fun _ => fun
  | [d1, d2, d3, d4, d5, d6, d7] => { results := [.lit (.bool true)], args := [d1, d2, d3, d4, d5, d6, d7] }
  | _ => none }
def fnSessionFirstMatchesPairModelRow : OpenClaim := { program := "qxb6604187a", sum := "4e0396d86f36ee2a437dffdd0c6d8f2c433c5c41b664538720e2f2fb31b94d07", func := "example.com/fivefold/fivefold/zzlaws_check_b1.FnSessionFirstMatchesPairModel", spec := "fnSessionFirstMatchesPairModel", plainKeys := false, apart := false }
def FnSessionFirstMatchesPairModelSaid : Prop := fnSessionFirstMatchesPairModelRow.holds Try.pinned (OpenSpec.ofChange fnSessionFirstMatchesPairModelSpec)

/-- ITS FALSE NEIGHBOUR: 'it returns false'. Refute it at one input. -/
def fnSessionFirstMatchesPairModelWrong : ChangeSpec := { name := "fnSessionFirstMatchesPairModel", fn := fun _ => fun
  | [d1, d2, d3, d4, d5, d6, d7] => { results := [.lit (.bool false)], args := [d1, d2, d3, d4, d5, d6, d7] }
  | _ => none }
def FnSessionFirstMatchesPairModelWrongFalsely : Prop := fnSessionFirstMatchesPairModelRow.holds Try.pinned (OpenSpec.ofChange fnSessionFirstMatchesPairModelWrong)

/-- 'zzlaws_check_b1.FnStateSetAddReportsNewStates': WHATEVER THE INPUT: true; the input reads as it did. -/
def fnStateSetAddReportsNewStatesSpec : ChangeSpec := { name := "fnStateSetAddReportsNewStates", fn := fun _ => fun
  | [d1, d2] => { results := [.lit (.bool true)], args := [d1, d2] }
  | _ => none }
def fnStateSetAddReportsNewStatesRow : OpenClaim := { program := "qxb6604187a", sum := "4e0396d86f36ee2a437dffdd0c6d8f2c433c5c41b664538720e2f2fb31b94d07", func := "example.com/fivefold/fivefold/zzlaws_check_b1.FnStateSetAddReportsNewStates", spec := "fnStateSetAddReportsNewStates", plainKeys := false, apart := false }
def FnStateSetAddReportsNewStatesSaid : Prop := fnStateSetAddReportsNewStatesRow.holds Try.pinned (OpenSpec.ofChange fnStateSetAddReportsNewStatesSpec)

/-- ITS FALSE NEIGHBOUR: 'it returns false'. Refute it at one input. -/
def fnStateSetAddReportsNewStatesWrong : ChangeSpec := { name := "fnStateSetAddReportsNewStates", fn := fun _ => fun
  | [d1, d2] => { results := [.lit (.bool false)], args := [d1, d2] }
  | _ => none }
def FnStateSetAddReportsNewStatesWrongFalsely : Prop := fnStateSetAddReportsNewStatesRow.holds Try.pinned (OpenSpec.ofChange fnStateSetAddReportsNewStatesWrong)

end Rows
end Go.Proofs.Qxb6604187a
