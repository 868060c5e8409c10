/-
  Statements 4 and 5: function 24, growIsBreadthFirst, a source off the graph.
-/
import Derived.Test.Qxb6619590aGrPlain
namespace Go.Proofs.Qxb6619590a
open Go.RowKit Go.Deep Go.Maps

set_option maxRecDepth 100000 in
set_option maxHeartbeats 2000000 in
theorem check_off (w : World) (g : GA) (hn : g.n ≤ 262144) (G : Nat → Prop) (aN aF aS : Option Addr) (cN lF cF lS cS : Nat) (hI : Ints w G aN g.n g.vN) (node goal : Int) (br : Nat) (hR : RA w g br [] (fun _ => false) 0) (hoff : g.on node = false) :
    Calls Try.prog 24 #[.slice aN g.n cN, .slice aF lF cF, .slice aS lS cS, .int .i32 node, .int .i32 goal, .pointer (some ⟨br, 0, none⟩), .int .i64 0] w fun e w' => e = .returned (.bool true) ∧ Below w.heap.size w w' := by
  obtain ⟨vn, few, many, hR⟩ := hR
  obtain ⟨ao, cap, hvn, -⟩ := own_form hR.own
  have hnodes := reachNodes_any hR
  have hwalked := reachWalked_any hR
  have hset := reachSet_any w br
  have hN := nodeSetN_any hR
  have h0 : cnt (mm [] (fun _ => false)) g.n = 0 := by unfold cnt; rw [List.countP_eq_zero]; simp [mm]
  rw [h0] at hN
  have hnum := numberIn_any w g hn G aN cN hI node
  rw [hoff] at hnum
  have hmet := fun k (hk : k < g.n) => zzMet_any hR hn hk
  have hhold := fun k (hk : k < g.n) => zzHolds_any hR hn hk
  have e1 : ∀ k, mm [] (fun _ => false) k = false := fun k => by simp [mm]
  have e2 : ∀ k, hh [] k = false := fun k => by simp [hh]
  simp only [e1] at hmet
  simp only [e2] at hhold
  subst hvn
  clear hR
  go_enter Try.func24, Try.ntmps24
  go_wp2_with fail
  refine Calls.mono hnodes ?_
  rintro e w1 ⟨rfl, hw⟩
  rw [hw]
  clear hnodes hw
  go_wp2_with fail
  refine Calls.mono hwalked ?_
  rintro e w1 ⟨rfl, hw⟩
  rw [hw]
  clear hwalked hw
  go_wp2_with fail
  refine Calls.mono hset ?_
  rintro e w1 ⟨rfl, hw⟩
  rw [hw]
  clear hset hw
  go_wp2_with fail
  refine Calls.mono hnum ?_
  rintro e w1 ⟨rfl, hw⟩
  rw [hw]
  clear hnum hw
  go_wp2_with fail
  refine Calls.mono hN ?_
  rintro e w1 ⟨rfl, hw⟩
  rw [hw]
  clear hN hw
  go_wp2_with fail
  go_loopg [21] g.n (fun gh t wr => ∃ r : Nat, r ≤ g.n ∧ gh = g.n - r ∧ t = .int .i64 r ∧ wr = w)
  case atStart => exact ⟨0, Nat.zero_le _, rfl, rfl, rfl⟩
  case round =>
    obtain ⟨r, hr, rfl, rfl, hwr⟩ := hrel
    subst hwr
    by_cases hlt : r < g.n
    · have hm := hmet r hlt
      have hh := hhold r hlt
      have hw1 := wrap_in32 (r : Int) (by omega) (by omega)
      have hz : (r : Int) < g.n := by omega
      go_wp2_with fail
      refine Calls.mono hm ?_
      rintro e w1 ⟨rfl, hw⟩
      rw [hw]
      clear hw
      go_wp2_with fail
      refine Calls.mono hh ?_
      rintro e w1 ⟨rfl, hw⟩
      rw [hw]
      clear hw
      go_wp2_with fail
      go_roundg (g.n - (r + 1))
      case measure => omega
      case rel => exact ⟨r + 1, by omega, rfl, by go_num, rfl⟩
    · obtain rfl : r = g.n := by omega
      go_wp2_with fail
      go_ret
      exact ⟨rfl, Below.refl _ _⟩

end Go.Proofs.Qxb6619590a
