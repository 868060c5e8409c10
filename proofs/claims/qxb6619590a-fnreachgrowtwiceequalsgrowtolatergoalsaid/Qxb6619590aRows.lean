/-
  NARROWER THAN 'FOR EVERY INPUT', by the rows' own cells (each row's printed sentence says how): FnReachGrowIsBreadthFirstToGoal: maps · FnReachGrowTwiceEqualsGrowToLaterGoal: maps.
  DERIVED. THE GIVEN ROWS OF THIS SEAT. 3 by the template 'for every input the law returns true; each argument reads behind the call as it read before'; 0 by the template 'total and deterministic' (their statements: Qxb6619590aTotals.lean).
  GIVEN WITH THE SEED: the statements are not yours to turn. If you find one false, say at which input.
  Laid BY PROGRAM, IN A SANDBOX (cutbox-rows.mjs): the forced cells as the released guide's own fill.sh prints them over the translation d66ced0cb5381919… (all of the seat's roots in one cut). By AI agents, Wed Nov 11 2026. No macro, syntax, notation, axiom, sorry.
-/
import Derived.Test.Qxb6619590aChecked
import GoSem.Claim
import GoSem.ClaimJoined
import GoSem.ClaimMapViews
import Derived.JoinedTies
import Derived.KernelRfl
namespace Go.Proofs.Qxb6619590a
/- THE CELL 'sum', in the pinned program and in every row, IS THE sha256 OF THE DUMP (.gsa) THAT Qxb6619590aProg.lean LOADS. Nothing in Lean hashes anything: it is a label: what it is worth is what the hold of that sum in a sandbox is worth. -/
noncomputable def Try.pinned : Pinned := { name := "qxb6619590a", sum := "d66ced0cb53819190231ac2ba1afad7d523cf32f00bb31b5b2905a3bb7316b02", checked := Try.checked }
namespace Rows
def none {H : Type} : Left H := { results := [], args := [] }

/-- 'zzlaws_pkg_eval_b1.FnNodeSetAddScriptMatchesSetModel': WHATEVER THE INPUT: true; the input reads as it did. -/
def fnNodeSetAddScriptMatchesSetModelSpec : ChangeSpec := { name := "fnNodeSetAddScriptMatchesSetModel", fn := fun _ => fun
  | [d1, d2] => { results := [.lit (.bool true)], args := [d1, d2] }
  | _ => none }
def fnNodeSetAddScriptMatchesSetModelRow : OpenClaim := { program := "qxb6619590a", sum := "d66ced0cb53819190231ac2ba1afad7d523cf32f00bb31b5b2905a3bb7316b02", func := "example.com/reed-warbler/reed-warbler/zzlaws_pkg_eval_b1.FnNodeSetAddScriptMatchesSetModel", spec := "fnNodeSetAddScriptMatchesSetModel", apart := false }
def FnNodeSetAddScriptMatchesSetModelSaid : Prop := fnNodeSetAddScriptMatchesSetModelRow.holds Try.pinned (OpenSpec.ofChange fnNodeSetAddScriptMatchesSetModelSpec)

/-- ITS FALSE NEIGHBOUR: 'it returns false'. Refute it at one input. -/
def fnNodeSetAddScriptMatchesSetModelWrong : ChangeSpec := { name := "fnNodeSetAddScriptMatchesSetModel", fn := fun _ => fun
  | [d1, d2] => { results := [.lit (.bool false)], args := [d1, d2] }
  | _ => none }
def FnNodeSetAddScriptMatchesSetModelWrongFalsely : Prop := fnNodeSetAddScriptMatchesSetModelRow.holds Try.pinned (OpenSpec.ofChange fnNodeSetAddScriptMatchesSetModelWrong)

/-- 'zzlaws_pkg_eval_b1.FnReachGrowIsBreadthFirstToGoal': WHATEVER THE INPUT: true; the input reads as it did. -/
def fnReachGrowIsBreadthFirstToGoalSpec : ChangeSpec := { name := "fnReachGrowIsBreadthFirstToGoal", fn := fun _ => fun
  | [d1, d2, d3, d4, d5, d6, d7, d8, d9] => { results := [.lit (.bool true)], args := [d1, d2, d3, d4, d5, d6, d7, d8, d9] }
  | _ => none }
def fnReachGrowIsBreadthFirstToGoalRow : OpenClaim := { program := "qxb6619590a", sum := "d66ced0cb53819190231ac2ba1afad7d523cf32f00bb31b5b2905a3bb7316b02", func := "example.com/reed-warbler/reed-warbler/zzlaws_pkg_eval_b1.FnReachGrowIsBreadthFirstToGoal", spec := "fnReachGrowIsBreadthFirstToGoal", unfollowed := true, recurses := true, maps := true, apart := false }
def FnReachGrowIsBreadthFirstToGoalSaid : Prop := fnReachGrowIsBreadthFirstToGoalRow.holds Try.pinned (OpenSpec.ofChange fnReachGrowIsBreadthFirstToGoalSpec)

/-- ITS FALSE NEIGHBOUR: 'it returns false'. Refute it at one input. -/
def fnReachGrowIsBreadthFirstToGoalWrong : ChangeSpec := { name := "fnReachGrowIsBreadthFirstToGoal", fn := fun _ => fun
  | [d1, d2, d3, d4, d5, d6, d7, d8, d9] => { results := [.lit (.bool false)], args := [d1, d2, d3, d4, d5, d6, d7, d8, d9] }
  | _ => none }
def FnReachGrowIsBreadthFirstToGoalWrongFalsely : Prop := fnReachGrowIsBreadthFirstToGoalRow.holds Try.pinned (OpenSpec.ofChange fnReachGrowIsBreadthFirstToGoalWrong)

/-- 'zzlaws_pkg_eval_b1.FnReachGrowTwiceEqualsGrowToLaterGoal': WHATEVER THE INPUT: true; the input reads as it did. -/
def fnReachGrowTwiceEqualsGrowToLaterGoalSpec : ChangeSpec := { name := "fnReachGrowTwiceEqualsGrowToLaterGoal", fn := fun _ => fun
  | [d1, d2, d3, d4, d5, d6, d7, d8, d9, d10] => { results := [.lit (.bool true)], args := [d1, d2, d3, d4, d5, d6, d7, d8, d9, d10] }
  | _ => none }
def fnReachGrowTwiceEqualsGrowToLaterGoalRow : OpenClaim := { program := "qxb6619590a", sum := "d66ced0cb53819190231ac2ba1afad7d523cf32f00bb31b5b2905a3bb7316b02", func := "example.com/reed-warbler/reed-warbler/zzlaws_pkg_eval_b1.FnReachGrowTwiceEqualsGrowToLaterGoal", spec := "fnReachGrowTwiceEqualsGrowToLaterGoal", unfollowed := true, recurses := true, maps := true, apart := false }
def FnReachGrowTwiceEqualsGrowToLaterGoalSaid : Prop := fnReachGrowTwiceEqualsGrowToLaterGoalRow.holds Try.pinned (OpenSpec.ofChange fnReachGrowTwiceEqualsGrowToLaterGoalSpec)

/-- ITS FALSE NEIGHBOUR: 'it returns false'. Refute it at one input. -/
def fnReachGrowTwiceEqualsGrowToLaterGoalWrong : ChangeSpec := { name := "fnReachGrowTwiceEqualsGrowToLaterGoal", fn := fun _ => fun
  | [d1, d2, d3, d4, d5, d6, d7, d8, d9, d10] => { results := [.lit (.bool false)], args := [d1, d2, d3, d4, d5, d6, d7, d8, d9, d10] }
  | _ => none }
def FnReachGrowTwiceEqualsGrowToLaterGoalWrongFalsely : Prop := fnReachGrowTwiceEqualsGrowToLaterGoalRow.holds Try.pinned (OpenSpec.ofChange fnReachGrowTwiceEqualsGrowToLaterGoalWrong)

end Rows
end Go.Proofs.Qxb6619590a
