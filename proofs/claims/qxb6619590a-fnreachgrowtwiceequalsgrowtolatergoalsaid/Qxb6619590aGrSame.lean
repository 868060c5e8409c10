/-
  Statement 5: function 26, sameReach.
-/
import Derived.Test.Qxb6619590aGrMake
namespace Go.Proofs.Qxb6619590a
open Go.RowKit Go.Deep Go.Maps

set_option maxRecDepth 100000 in
set_option maxHeartbeats 2000000 in
theorem same_any (w : World) (g : GA) (hn : g.n ≤ 262144) (bx bz : Nat) (rn : List Nat) (S : Nat → Bool) (wk : Nat) (hX : RA w g bx rn S wk) (hZ : RA w g bz rn S wk) :
    Calls Try.prog 26 #[.pointer (some ⟨bx, 0, none⟩), .pointer (some ⟨bz, 0, none⟩), .int .i64 (g.n : Int)] w fun e w' => e = .returned (.bool true) ∧ ∃ q, w' = w.drewN q := by
  obtain ⟨vn, few, many, hX⟩ := hX
  obtain ⟨vn', few', many', hZ⟩ := hZ
  have hln : rn.length ≤ g.n := by rw [hX.len]; exact cnt_le _ _
  obtain ⟨ao, cap, hvn, hcell⟩ := own_form hX.own
  obtain ⟨ao', cap', hvn', hcell'⟩ := own_form hZ.own
  subst hvn
  subst hvn'
  have n1 := reachNodes_any hX
  have n2 := reachNodes_any hZ
  have w1 := reachWalked_any hX
  have w2 := reachWalked_any hZ
  have HX : Hid (RS w g bx rn S wk (.slice ao rn.length cap) few many) := hX
  have HZ : Hid (RS w g bz rn S wk (.slice ao' rn.length cap') few' many') := hZ
  clear hX hZ
  go_enter Try.func26, Try.ntmps26
  go_wp2_with fail
  refine Calls.mono n1 ?_
  rintro e w3 ⟨rfl, hw⟩
  rw [hw]
  clear n1 hw
  go_wp2_with fail
  refine Calls.mono n2 ?_
  rintro e w3 ⟨rfl, hw⟩
  rw [hw]
  clear n2 hw
  go_wp2_with fail
  refine Calls.mono w1 ?_
  rintro e w3 ⟨rfl, hw⟩
  rw [hw]
  clear w1 hw
  go_wp2_with fail
  refine Calls.mono w2 ?_
  rintro e w3 ⟨rfl, hw⟩
  rw [hw]
  clear w2 hw
  go_wp2_with fail
  go_loopg [9] rn.length (fun gh s wr => ∃ p q : Nat, p ≤ rn.length ∧ gh = rn.length - p ∧ s = .int .i64 p ∧ wr = w.drewN q)
  case atStart => exact ⟨0, 0, Nat.zero_le _, rfl, rfl, rfl⟩
  case round =>
    obtain ⟨p, q, hp, rfl, rfl, hwr⟩ := hrel
    subst hwr
    by_cases hlt : p < rn.length
    · obtain ⟨gb, hao, hc⟩ := hcell p (by simpa using hlt)
      obtain ⟨gb', hao', hc'⟩ := hcell' p (by simpa using hlt)
      subst hao
      subst hao'
      rw [List.getElem_map] at hc hc'
      generalize g.vN rn[p] = y at hc hc'
      have hz : (p : Int) < rn.length := by omega
      clear hcell hcell'
      go_wp2_with fail
      go_big_region
      go_wp2_with fail
      go_roundg (rn.length - (p + 1))
      case measure => omega
      case rel => exact ⟨p + 1, _, by omega, rfl, by go_num, rfl⟩
    · obtain rfl : p = rn.length := by omega
      have hX := HX.out.drewN q
      have hZ := HZ.out.drewN q
      have s1 := reachSet_any (w.drewN q) bx
      have s2 := reachSet_any (w.drewN q) bz
      have c1 := nodeSetN_any hX
      have c2 := nodeSetN_any hZ
      have m1 := fun k (hk : k < g.n) => zzMet_any hX hn hk
      have m2 := fun k (hk : k < g.n) => zzMet_any hZ hn hk
      have o1 := fun k (hk : k < g.n) => zzHolds_any hX hn hk
      have o2 := fun k (hk : k < g.n) => zzHolds_any hZ hn hk
      clear hX hZ hcell hcell'
      go_wp2_with fail
      refine Calls.mono s1 ?_
      rintro e w3 ⟨rfl, hw⟩
      rw [hw]
      clear s1 hw
      go_wp2_with fail
      refine Calls.mono s2 ?_
      rintro e w3 ⟨rfl, hw⟩
      rw [hw]
      clear s2 hw
      go_wp2_with fail
      refine Calls.mono c1 ?_
      rintro e w3 ⟨rfl, hw⟩
      rw [hw]
      clear c1 hw
      go_wp2_with fail
      refine Calls.mono c2 ?_
      rintro e w3 ⟨rfl, hw⟩
      rw [hw]
      clear c2 hw
      go_wp2_with fail
      obtain ⟨wq, hwq⟩ : ∃ wq, wq = w.drewN q := ⟨_, rfl⟩
      have Hq : Hid (wq = w.drewN q) := hwq
      rw [← hwq] at m1 m2 o1 o2 ⊢
      clear hwq
      go_loopg [12] g.n (fun gh s wr => ∃ r : Nat, r ≤ g.n ∧ gh = g.n - r ∧ s = .int .i64 r ∧ wr = wq)
      case atStart => exact ⟨0, Nat.zero_le _, rfl, rfl, rfl⟩
      case round =>
        obtain ⟨r, hr, rfl, rfl, hwr⟩ := hrel
        have hwr' := hwr.symm
        subst hwr'
        clear hwr
        by_cases hlt2 : r < g.n
        · have a1 := m1 r hlt2
          have a2 := m2 r hlt2
          have a3 := o1 r hlt2
          have a4 := o2 r hlt2
          generalize mm rn S r = bm at a1 a2
          generalize hh rn r = bh at a3 a4
          have hw1 := wrap_in32 (r : Int) (by omega) (by omega)
          have hz : (r : Int) < g.n := by omega
          clear m1 m2 o1 o2
          go_wp2_with fail
          refine Calls.mono a1 ?_
          rintro e w3 ⟨rfl, hw⟩
          rw [hw]
          clear a1 hw
          go_wp2_with fail
          refine Calls.mono a2 ?_
          rintro e w3 ⟨rfl, hw⟩
          rw [hw]
          clear a2 hw
          go_wp2_with fail
          refine Calls.mono a3 ?_
          rintro e w3 ⟨rfl, hw⟩
          rw [hw]
          clear a3 hw
          go_wp2_with fail
          refine Calls.mono a4 ?_
          rintro e w3 ⟨rfl, hw⟩
          rw [hw]
          clear a4 hw
          go_wp2_with fail
          go_roundg (g.n - (r + 1))
          case measure => omega
          case rel => exact ⟨r + 1, by omega, rfl, by go_num, rfl⟩
        · obtain rfl : g.n = r := by omega
          go_wp2_with fail
          go_ret
          exact ⟨rfl, q, Hq.out⟩

end Go.Proofs.Qxb6619590a
