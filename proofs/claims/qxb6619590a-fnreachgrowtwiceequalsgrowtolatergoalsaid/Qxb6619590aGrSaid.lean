/-
  Statements 4 and 5: what the two laws' walks show.
-/
import Derived.Test.Qxb6619590aGrArgs
namespace Go.Proofs.Qxb6619590a
open Go.RowKit Go.Deep Go.Maps

/-- What the walk of function 4 shows. -/
def Main4T : Prop :=
  ∀ (w : World) (aN aD aF0 aF1 aS0 aS1 : Option Addr) (n cN lD cD lF0 cF0 lF1 cF1 lS0 cS0 lS1 cS1 ml : Nat) (vN vD F0 F1 S0 S1 : Nat → Int) (mn node goal dd : Int) (mo : Option Nat) (lv : Int → Int) (lb : Int → Bool),
    Sl w aN n cN vN → Sl w aD lD cD vD → Sl w aF0 lF0 cF0 F0 → Sl w aF1 lF1 cF1 F1 → Sl w aS0 lS0 cS0 S0 → Sl w aS1 lS1 cS1 S1 → MapR w (.map mo) ml lv lb →
    (n ≤ 9223372036854775807 ∧ lD ≤ 9223372036854775807 ∧ ml ≤ 9223372036854775807 ∧ lF0 ≤ 9223372036854775807 ∧ lF1 ≤ 9223372036854775807 ∧ lS0 ≤ 9223372036854775807 ∧ lS1 ≤ 9223372036854775807) →
    -2147483648 ≤ mn → mn ≤ 2147483647 → -2147483648 ≤ node → node ≤ 2147483647 → -2147483648 ≤ goal → goal ≤ 2147483647 →
    Calls Try.prog 4 #[.slice aN n cN, .int .i32 mn, .slice aD lD cD, .map mo, .agg #[.slice aF0 lF0 cF0, .slice aF1 lF1 cF1], .agg #[.slice aS0 lS0 cS0, .slice aS1 lS1 cS1], .int .i32 node, .int .i64 dd, .int .i32 goal] w
      fun e w' => e = .returned (.bool true) ∧ Below w.heap.size w w'

/-- What the walk of function 5 shows. -/
def Main5T : Prop :=
  ∀ (w : World) (aN aD aF0 aF1 aS0 aS1 : Option Addr) (n cN lD cD lF0 cF0 lF1 cF1 lS0 cS0 lS1 cS1 ml : Nat) (vN vD F0 F1 S0 S1 : Nat → Int) (mn node goal goal2 dd : Int) (mo : Option Nat) (lv : Int → Int) (lb : Int → Bool),
    Sl w aN n cN vN → Sl w aD lD cD vD → Sl w aF0 lF0 cF0 F0 → Sl w aF1 lF1 cF1 F1 → Sl w aS0 lS0 cS0 S0 → Sl w aS1 lS1 cS1 S1 → MapR w (.map mo) ml lv lb →
    (n ≤ 9223372036854775807 ∧ lD ≤ 9223372036854775807 ∧ ml ≤ 9223372036854775807 ∧ lF0 ≤ 9223372036854775807 ∧ lF1 ≤ 9223372036854775807 ∧ lS0 ≤ 9223372036854775807 ∧ lS1 ≤ 9223372036854775807) →
    -2147483648 ≤ mn → mn ≤ 2147483647 → -2147483648 ≤ node → node ≤ 2147483647 → -2147483648 ≤ goal → goal ≤ 2147483647 → -2147483648 ≤ goal2 → goal2 ≤ 2147483647 →
    Calls Try.prog 5 #[.slice aN n cN, .int .i32 mn, .slice aD lD cD, .map mo, .agg #[.slice aF0 lF0 cF0, .slice aF1 lF1 cF1], .agg #[.slice aS0 lS0 cS0, .slice aS1 lS1 cS1], .int .i32 node, .int .i64 dd, .int .i32 goal, .int .i32 goal2] w
      fun e w' => e = .returned (.bool true) ∧ Below w.heap.size w w'

end Go.Proofs.Qxb6619590a
