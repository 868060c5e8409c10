/-
  No cell of these rows narrows 'for every input' (looked for: loops, veiled, ifaces, maps, wideKeys, modest, calm, conditions, laid).
  DERIVED. THE GIVEN ROWS OF THIS SEAT. 1 by the template 'for every input the law returns true; each argument reads behind the call as it read before'; 0 by the template 'total and deterministic' (their statements: Qxb6618050aTotals.lean).
  GIVEN WITH THE SEED: the statements are not yours to turn. If you find one false, say at which input.
  Laid BY PROGRAM, IN A SANDBOX (cutbox-rows.mjs): the forced cells as the released guide's own fill.sh prints them over the translation 0c5f13546423423d… (all of the seat's roots in one cut). By AI agents, Wed Nov 11 2026. No macro, syntax, notation, axiom, sorry.
-/
import Derived.Test.Qxb6618050aChecked
import GoSem.Claim
import GoSem.ClaimJoined
import GoSem.ClaimMapViews
import Derived.JoinedTies
import Derived.KernelRfl
namespace Go.Proofs.Qxb6618050a
/- THE CELL 'sum', in the pinned program and in every row, IS THE sha256 OF THE DUMP (.gsa) THAT Qxb6618050aProg.lean LOADS. Nothing in Lean hashes anything: it is a label: what it is worth is what the hold of that sum in a sandbox is worth. -/
noncomputable def Try.pinned : Pinned := { name := "qxb6618050a", sum := "0c5f13546423423d5101a168101cb3e0de5d2cb0eb19d1fe4d71d711c2d5077d", checked := Try.checked }
namespace Rows
def none {H : Type} : Left H := { results := [], args := [] }

/-- 'zzlaws_internal_state_b1.FnSplitKeepsKeysAndCutsAtRunKeys': WHATEVER THE INPUT: true; the input reads as it did. -/
def fnSplitKeepsKeysAndCutsAtRunKeysSpec : ChangeSpec := { name := "fnSplitKeepsKeysAndCutsAtRunKeys", fn := fun _ => fun
  | [d1, d2, d3, d4, d5, d6] => { results := [.lit (.bool true)], args := [d1, d2, d3, d4, d5, d6] }
  | _ => none }
def fnSplitKeepsKeysAndCutsAtRunKeysRow : OpenClaim := { program := "qxb6618050a", sum := "0c5f13546423423d5101a168101cb3e0de5d2cb0eb19d1fe4d71d711c2d5077d", func := "example.com/tessera-ledger/tessera-ledger/zzlaws_internal_state_b1.FnSplitKeepsKeysAndCutsAtRunKeys", spec := "fnSplitKeepsKeysAndCutsAtRunKeys", apart := false }
def FnSplitKeepsKeysAndCutsAtRunKeysSaid : Prop := fnSplitKeepsKeysAndCutsAtRunKeysRow.holds Try.pinned (OpenSpec.ofChange fnSplitKeepsKeysAndCutsAtRunKeysSpec)

/-- ITS FALSE NEIGHBOUR: 'it returns false'. Refute it at one input. -/
def fnSplitKeepsKeysAndCutsAtRunKeysWrong : ChangeSpec := { name := "fnSplitKeepsKeysAndCutsAtRunKeys", fn := fun _ => fun
  | [d1, d2, d3, d4, d5, d6] => { results := [.lit (.bool false)], args := [d1, d2, d3, d4, d5, d6] }
  | _ => none }
def FnSplitKeepsKeysAndCutsAtRunKeysWrongFalsely : Prop := fnSplitKeepsKeysAndCutsAtRunKeysRow.holds Try.pinned (OpenSpec.ofChange fnSplitKeepsKeysAndCutsAtRunKeysWrong)

end Rows
end Go.Proofs.Qxb6618050a
