/-
  Statement 5: the law.
-/
import Derived.Test.Qxb6619590aGrMain5a
import Derived.Test.Qxb6619590aGrMain5b
import Derived.Test.Qxb6619590aGrMain5x
import Derived.Test.Qxb6619590aGrProof5
namespace Go.Proofs.Qxb6619590a
open Go.RowKit Go.Deep Go.Maps

theorem main5 : Main5T := by
  intro w aN aD aF0 aF1 aS0 aS1 n cN lD cD lF0 cF0 lF1 cF1 lS0 cS0 lS1 cS1 ml vN vD F0 F1 S0 S1 mn node goal goal2 dd mo lv lb hN hD hF0 hF1 hS0 hS1 hM hb hm0 hm1 hn0 hn1 hg0 hg1 hq0 hq1
  by_cases hdd : dd = 0
  · subst hdd
    exact main5_0 w aN aD aF0 aF1 aS0 aS1 n cN lD cD lF0 cF0 lF1 cF1 lS0 cS0 lS1 cS1 ml vN vD F0 F1 S0 S1 mn node goal goal2 mo lv lb hN hD hF0 hF1 hS0 hS1 hM hb hm0 hm1 hn0 hn1 hg0 hg1 hq0 hq1
  · by_cases hdd1 : dd = 1
    · subst hdd1
      exact main5_1 w aN aD aF0 aF1 aS0 aS1 n cN lD cD lF0 cF0 lF1 cF1 lS0 cS0 lS1 cS1 ml vN vD F0 F1 S0 S1 mn node goal goal2 mo lv lb hN hD hF0 hF1 hS0 hS1 hM hb hm0 hm1 hn0 hn1 hg0 hg1 hq0 hq1
    · exact main5_x w aN aD aF0 aF1 aS0 aS1 n cN lD cD lF0 cF0 lF1 cF1 lS0 cS0 lS1 cS1 ml mn node goal goal2 dd mo lv lb hM hb hdd hdd1

theorem twice_holds : Rows.FnReachGrowTwiceEqualsGrowToLaterGoalSaid := twice_of main5

end Go.Proofs.Qxb6619590a
