/-
  Statement 5: the law's own walk where d is neither 0 nor 1.
-/
import Derived.Test.Qxb6619590aGrReady
namespace Go.Proofs.Qxb6619590a
open Go.RowKit Go.Deep Go.Maps

set_option maxRecDepth 100000 in
set_option maxHeartbeats 4000000 in
theorem main5_x (w : World) (aN aD aF0 aF1 aS0 aS1 : Option Addr) (n cN lD cD lF0 cF0 lF1 cF1 lS0 cS0 lS1 cS1 ml : Nat) (mn node goal goal2 dd : Int) (mo : Option Nat) (lv : Int → Int) (lb : Int → Bool)
    (hM : MapR w (.map mo) ml lv lb)
    (hb : n ≤ 9223372036854775807 ∧ lD ≤ 9223372036854775807 ∧ ml ≤ 9223372036854775807 ∧ lF0 ≤ 9223372036854775807 ∧ lF1 ≤ 9223372036854775807 ∧ lS0 ≤ 9223372036854775807 ∧ lS1 ≤ 9223372036854775807)
    (hdd : ¬ dd = 0) (hdd1 : ¬ dd = 1) :
    Calls Try.prog 5 #[.slice aN n cN, .int .i32 mn, .slice aD lD cD, .map mo, .agg #[.slice aF0 lF0 cF0, .slice aF1 lF1 cF1], .agg #[.slice aS0 lS0 cS0, .slice aS1 lS1 cS1], .int .i32 node, .int .i64 dd, .int .i32 goal, .int .i32 goal2] w
      fun e w' => e = .returned (.bool true) ∧ Below w.heap.size w w' := by
  have hE := env_start w (.slice aF0 lF0 cF0) (.slice aF1 lF1 cF1) (.slice aS0 lS0 cS0) (.slice aS1 lS1 cS1)
  obtain ⟨W0, hW0⟩ : ∃ W0, W0 = (w.alloc (.cells #[.slice aF0 lF0 cF0, .slice aF1 lF1 cF1] 30)).alloc (.cells #[.slice aS0 lS0 cS0, .slice aS1 lS1 cS1] 30) := ⟨_, rfl⟩
  have hszc := size_any W0 aN aD aF0 aF1 aS0 aS1 n cN lD cD lF0 cF0 lF1 cF1 lS0 cS0 lS1 cS1 ml (.map mo) hb (fun W hW => hM.len W ((hW0 ▸ hE.below).trans (hW.mono (by rw [hW0]; exact hE.below.size))))
  rw [hW0] at hszc
  clear hb
  go_enter Try.func5, Try.ntmps5
  go_wp2_with fail
  refine Calls.mono hszc ?_
  rintro e w1 ⟨⟨bz, rfl, hsz⟩, hb1⟩
  have hE1 := hE.next hb1
  clear hszc hE hb1 hW0
  cases bz with
  | false =>
    go_wp2_with fail
    go_ret
    exact ⟨rfl, hE1.below⟩
  | true =>
    have q0 : (dd == 0) = false := by simpa using hdd
    have q1 : (dd == 1) = false := by simpa using hdd1
    have q2 : (dd != 0) = true := by simpa using hdd
    have q3 : (dd != 1) = true := by simpa using hdd1
    go_wp2_with fail
    all_goals first
      | (go_ret; exact ⟨rfl, hE1.below⟩)
      | (exfalso; simp_all)

end Go.Proofs.Qxb6619590a
