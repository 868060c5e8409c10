/-
  Statement 5: the law's own walk at d = 1.
-/
import Derived.Test.Qxb6619590aGrTwice
namespace Go.Proofs.Qxb6619590a
open Go.RowKit Go.Deep Go.Maps

/-- Several ways to one end. -/
theorem merge51 {Goal : Prop} (Facts G : World → Option Addr → Option Addr → Prop) (h1 : (∀ W x y, Facts W x y → G W x y) → Goal) (h2 : ∀ W x y, Facts W x y → G W x y) : Goal := h1 h2

set_option maxRecDepth 100000 in
set_option maxHeartbeats 4000000 in
theorem main5_1 (w : World) (aN aD aF0 aF1 aS0 aS1 : Option Addr) (n cN lD cD lF0 cF0 lF1 cF1 lS0 cS0 lS1 cS1 ml : Nat) (vN vD F0 F1 S0 S1 : Nat → Int) (mn node goal goal2 : Int) (mo : Option Nat) (lv : Int → Int) (lb : Int → Bool)
    (hN : Sl w aN n cN vN) (hD : Sl w aD lD cD vD) (hF0 : Sl w aF0 lF0 cF0 F0) (hF1 : Sl w aF1 lF1 cF1 F1) (hS0 : Sl w aS0 lS0 cS0 S0) (hS1 : Sl w aS1 lS1 cS1 S1) (hM : MapR w (.map mo) ml lv lb)
    (hb : n ≤ 9223372036854775807 ∧ lD ≤ 9223372036854775807 ∧ ml ≤ 9223372036854775807 ∧ lF0 ≤ 9223372036854775807 ∧ lF1 ≤ 9223372036854775807 ∧ lS0 ≤ 9223372036854775807 ∧ lS1 ≤ 9223372036854775807)
    (hm0 : -2147483648 ≤ mn) (hm1 : mn ≤ 2147483647) (hn0 : -2147483648 ≤ node) (hn1 : node ≤ 2147483647) (hg0 : -2147483648 ≤ goal) (hg1 : goal ≤ 2147483647) (hq0 : -2147483648 ≤ goal2) (hq1 : goal2 ≤ 2147483647) :
    Calls Try.prog 5 #[.slice aN n cN, .int .i32 mn, .slice aD lD cD, .map mo, .agg #[.slice aF0 lF0 cF0, .slice aF1 lF1 cF1], .agg #[.slice aS0 lS0 cS0, .slice aS1 lS1 cS1], .int .i32 node, .int .i64 1, .int .i32 goal, .int .i32 goal2] w
      fun e w' => e = .returned (.bool true) ∧ Below w.heap.size w w' := by
  have hE := env_start w (.slice aF0 lF0 cF0) (.slice aF1 lF1 cF1) (.slice aS0 lS0 cS0) (.slice aS1 lS1 cS1)
  obtain ⟨W0, hW0⟩ : ∃ W0, W0 = (w.alloc (.cells #[.slice aF0 lF0 cF0, .slice aF1 lF1 cF1] 30)).alloc (.cells #[.slice aS0 lS0 cS0, .slice aS1 lS1 cS1] 30) := ⟨_, rfl⟩
  have hszc := size_any W0 aN aD aF0 aF1 aS0 aS1 n cN lD cD lF0 cF0 lF1 cF1 lS0 cS0 lS1 cS1 ml (.map mo) hb (fun W hW => hM.len W ((hW0 ▸ hE.below).trans (hW.mono (by rw [hW0]; exact hE.below.size))))
  rw [hW0] at hszc
  clear hb
  go_enter Try.func5, Try.ntmps5
  go_wp2_with fail
  refine Calls.mono hszc ?_
  rintro e w1 ⟨⟨bz, rfl, hsz⟩, hb1⟩
  have hE1 := hE.next hb1
  clear hszc hE hb1 hW0
  cases bz with
  | false =>
    go_wp2_with fail
    go_ret
    exact ⟨rfl, hE1.below⟩
  | true =>
    obtain ⟨z1, z2, z3, z4, z5, z6, z7⟩ := hsz rfl
    have c0 : w1.cell? ⟨w.heap.size, 1, none⟩ = some (.slice aF1 lF1 cF1) := hE1.bf.cell (by decide)
    have d0 : w1.cell? ⟨w.heap.size + 1, 1, none⟩ = some (.slice aS1 lS1 cS1) := hE1.bs.cell (by decide)
    have hprem := fun q => prem_any (W := w1.drewN q) (Kept.of_below hE1.below |>.drewN q |>.below) (hN.next (Kept.of_below hE1.below |>.drewN q |>.below)) (hD.next (Kept.of_below hE1.below |>.drewN q |>.below)) (hF1.next (Kept.of_below hE1.below |>.drewN q |>.below)) (hS1.next (Kept.of_below hE1.below |>.drewN q |>.below)) hM z1 z2 z5 z7 hm0 hm1
    go_wp2_with fail
    go_region_held3 (fun w' => w'.cell? ⟨w.heap.size, 1, none⟩ = some (.slice aF1 lF1 cF1) ∧ w'.cell? ⟨w.heap.size + 1, 1, none⟩ = some (.slice aS1 lS1 cS1)) (first | exact ⟨c0, d0⟩ | go_keep) ((go_at_call 21; refine Calls.mono (hprem 1) ?_; rintro e w2 ⟨⟨bp, rfl, hp⟩, qp, rfl⟩))
    have hE2 : Env w (w1.drewN (1 + qp)) (.slice aF0 lF0 cF0) (.slice aF1 lF1 cF1) (.slice aS0 lS0 cS0) (.slice aS1 lS1 cS1) := hE1.next (Kept.of_below (Below.refl w1.heap.size w1) |>.drewN (1 + qp) |>.below)
    clear c0 d0 hprem hE1
    generalize w1.drewN (1 + qp) = w2 at *
    cases bp with
    | false =>
      go_wp2_with fail
      go_ret
      exact ⟨rfl, hE2.below⟩
    | true =>
      obtain ⟨hPH, hTail⟩ := hp rfl
      have hcN := copy_any (hN.next hE2.below) z1
      go_wp2_with fail
      refine Calls.mono hcN ?_
      rintro e w3 ⟨aN', rfl, hb3, hN3, hiN⟩
      have hE3 := hE2.next hb3
      clear hcN hE2 hb3
      have hcD := copy_any (hD.next hE3.below) z2
      go_wp2_with fail
      refine Calls.mono hcD ?_
      rintro e w4 ⟨aD', rfl, hb4, hD4, hiD⟩
      have hE4 := hE3.next hb4
      have hN4 := hN3.next hb4
      clear hcD hE3 hb4 hN3
      have c0 : w4.cell? ⟨w.heap.size, 0, none⟩ = some (.slice aF0 lF0 cF0) := hE4.bf.cell (by decide)
      have c1 : w4.cell? ⟨w.heap.size, 1, none⟩ = some (.slice aF1 lF1 cF1) := hE4.bf.cell (by decide)
      have hE4' : Env w w4.drew (.slice aF0 lF0 cF0) (.slice aF1 lF1 cF1) (.slice aS0 lS0 cS0) (.slice aS1 lS1 cS1) := hE4.next (Below.refl _ _).drew
      have hc0 := fun W (hW : Below w.heap.size w W) => copy_any (hF0.next hW) z4
      have hc1 := fun W (hW : Below w.heap.size w W) => copy_any (hF1.next hW) z5
      have hs0 := fun W (hW : Below w.heap.size w W) => copy_any (hS0.next hW) z6
      have hs1 := fun W (hW : Below w.heap.size w W) => copy_any (hS1.next hW) z7
      go_wp2_with fail
      apply merge51 (fun W x0 x1 => Env w W (.slice x0 lF0 lF0) (.slice x1 lF1 lF1) (.slice aS0 lS0 cS0) (.slice aS1 lS1 cS1) ∧ Sl W x0 lF0 lF0 F0 ∧ Sl W x1 lF1 lF1 F1 ∧ Sl W aN' n n vN ∧ Sl W aD' lD lD vD)
      · intro key
        go_region_with (first
          | (go_at_call_of 7 (Value.slice aF0 lF0 cF0); refine Calls.mono (hc0 _ hE4'.below) ?_; rintro e w5 ⟨x0, rfl, hb5, hx0, hi0⟩; have hE5 := hE4'.next hb5; have u0 : w5.cell? ⟨w.heap.size, 0, none⟩ = some (.slice aF0 lF0 cF0) := hE5.bf.cell (by decide); have u1 : w5.cell? ⟨w.heap.size, 1, none⟩ = some (.slice aF1 lF1 cF1) := hE5.bf.cell (by decide))
          | (go_at_call_of 7 (Value.slice aF1 lF1 cF1); refine Calls.mono (hc1 _ hE5.below) ?_; rintro e w6 ⟨x1, rfl, hb6, hx1, hi1⟩; have hE6 := hE5.next hb6; have v0 : w6.cell? ⟨w.heap.size, 0, none⟩ = some (.slice aF0 lF0 cF0) := hE6.bf.cell (by decide); have v1 : w6.cell? ⟨w.heap.size, 1, none⟩ = some (.slice aF1 lF1 cF1) := hE6.bf.cell (by decide); have v0' : w6.frozen? ⟨w.heap.size, 0, none⟩ = false := hE6.bf.frozen 0; have v1' : w6.frozen? ⟨w.heap.size, 1, none⟩ = false := hE6.bf.frozen 1))
        all_goals
          have FF : Env w ((w6.setCell ⟨w.heap.size, 0, none⟩ (.slice x0 lF0 lF0)).setCell ⟨w.heap.size, 1, none⟩ (.slice x1 lF1 lF1)) (.slice x0 lF0 lF0) (.slice x1 lF1 lF1) (.slice aS0 lS0 cS0) (.slice aS1 lS1 cS1) ∧ Sl ((w6.setCell ⟨w.heap.size, 0, none⟩ (.slice x0 lF0 lF0)).setCell ⟨w.heap.size, 1, none⟩ (.slice x1 lF1 lF1)) x0 lF0 lF0 F0 ∧ Sl ((w6.setCell ⟨w.heap.size, 0, none⟩ (.slice x0 lF0 lF0)).setCell ⟨w.heap.size, 1, none⟩ (.slice x1 lF1 lF1)) x1 lF1 lF1 F1 ∧ Sl ((w6.setCell ⟨w.heap.size, 0, none⟩ (.slice x0 lF0 lF0)).setCell ⟨w.heap.size, 1, none⟩ (.slice x1 lF1 lF1)) aN' n n vN ∧ Sl ((w6.setCell ⟨w.heap.size, 0, none⟩ (.slice x0 lF0 lF0)).setCell ⟨w.heap.size, 1, none⟩ (.slice x1 lF1 lF1)) aD' lD lD vD :=
            ⟨hE6.setF _ _, (((hx0.next hb6).setBox hE6.bf 0 _).setBox (two_0 hE6.bf) 1 _), ((hx1.setBox hE6.bf 0 _).setBox (two_0 hE6.bf) 1 _), ((((hN4.next (Below.refl _ _).drew).next hb5).next hb6 |>.setBox hE6.bf 0 _).setBox (two_0 hE6.bf) 1 _), ((((hD4.next (Below.refl _ _).drew).next hb5).next hb6 |>.setBox hE6.bf 0 _).setBox (two_0 hE6.bf) 1 _)⟩
          revert FF
          generalize (w6.setCell ⟨w.heap.size, 0, none⟩ (.slice x0 lF0 lF0)).setCell ⟨w.heap.size, 1, none⟩ (.slice x1 lF1 lF1) = W'
          intro FF
          exact key W' x0 x1 FF
      · rintro w7 x0 x1 ⟨hE7, hx7, hy7, hN7, hD7⟩
        clear c0 c1 hc0 hc1 hN4 hD4 hE4 hE4' hF0 hF1 hN hD
        have c0 : w7.cell? ⟨w.heap.size + 1, 0, none⟩ = some (.slice aS0 lS0 cS0) := hE7.bs.cell (by decide)
        have c1 : w7.cell? ⟨w.heap.size + 1, 1, none⟩ = some (.slice aS1 lS1 cS1) := hE7.bs.cell (by decide)
        have hE7' : Env w w7.drew (.slice x0 lF0 lF0) (.slice x1 lF1 lF1) (.slice aS0 lS0 cS0) (.slice aS1 lS1 cS1) := hE7.next (Below.refl _ _).drew
        go_wp2_with fail
        apply merge51 (fun W y0 y1 => Env w W (.slice x0 lF0 lF0) (.slice x1 lF1 lF1) (.slice y0 lS0 lS0) (.slice y1 lS1 lS1) ∧ Sl W x0 lF0 lF0 F0 ∧ Sl W x1 lF1 lF1 F1 ∧ Sl W y0 lS0 lS0 S0 ∧ Sl W y1 lS1 lS1 S1 ∧ Sl W aN' n n vN ∧ Sl W aD' lD lD vD)
        · intro key
          go_region_with (first
            | (go_at_call_of 7 (Value.slice aS0 lS0 cS0); refine Calls.mono (hs0 _ hE7'.below) ?_; rintro e w8 ⟨y0, rfl, hb8, hy0, hi0⟩; have hE8 := hE7'.next hb8; have u0 : w8.cell? ⟨w.heap.size + 1, 0, none⟩ = some (.slice aS0 lS0 cS0) := hE8.bs.cell (by decide); have u1 : w8.cell? ⟨w.heap.size + 1, 1, none⟩ = some (.slice aS1 lS1 cS1) := hE8.bs.cell (by decide))
            | (go_at_call_of 7 (Value.slice aS1 lS1 cS1); refine Calls.mono (hs1 _ hE8.below) ?_; rintro e w9 ⟨y1, rfl, hb9, hy1, hi1⟩; have hE9 := hE8.next hb9; have v0 : w9.cell? ⟨w.heap.size + 1, 0, none⟩ = some (.slice aS0 lS0 cS0) := hE9.bs.cell (by decide); have v1 : w9.cell? ⟨w.heap.size + 1, 1, none⟩ = some (.slice aS1 lS1 cS1) := hE9.bs.cell (by decide); have v0' : w9.frozen? ⟨w.heap.size + 1, 0, none⟩ = false := hE9.bs.frozen 0; have v1' : w9.frozen? ⟨w.heap.size + 1, 1, none⟩ = false := hE9.bs.frozen 1))
          all_goals
            have hb79 : Below w7.heap.size w7 w9 := ((Below.refl w7.heap.size w7).drew.trans hb8).trans (hb9.mono hb8.size)
            have FF : Env w ((w9.setCell ⟨w.heap.size + 1, 0, none⟩ (.slice y0 lS0 lS0)).setCell ⟨w.heap.size + 1, 1, none⟩ (.slice y1 lS1 lS1)) (.slice x0 lF0 lF0) (.slice x1 lF1 lF1) (.slice y0 lS0 lS0) (.slice y1 lS1 lS1) ∧ Sl ((w9.setCell ⟨w.heap.size + 1, 0, none⟩ (.slice y0 lS0 lS0)).setCell ⟨w.heap.size + 1, 1, none⟩ (.slice y1 lS1 lS1)) x0 lF0 lF0 F0 ∧ Sl ((w9.setCell ⟨w.heap.size + 1, 0, none⟩ (.slice y0 lS0 lS0)).setCell ⟨w.heap.size + 1, 1, none⟩ (.slice y1 lS1 lS1)) x1 lF1 lF1 F1 ∧ Sl ((w9.setCell ⟨w.heap.size + 1, 0, none⟩ (.slice y0 lS0 lS0)).setCell ⟨w.heap.size + 1, 1, none⟩ (.slice y1 lS1 lS1)) y0 lS0 lS0 S0 ∧ Sl ((w9.setCell ⟨w.heap.size + 1, 0, none⟩ (.slice y0 lS0 lS0)).setCell ⟨w.heap.size + 1, 1, none⟩ (.slice y1 lS1 lS1)) y1 lS1 lS1 S1 ∧ Sl ((w9.setCell ⟨w.heap.size + 1, 0, none⟩ (.slice y0 lS0 lS0)).setCell ⟨w.heap.size + 1, 1, none⟩ (.slice y1 lS1 lS1)) aN' n n vN ∧ Sl ((w9.setCell ⟨w.heap.size + 1, 0, none⟩ (.slice y0 lS0 lS0)).setCell ⟨w.heap.size + 1, 1, none⟩ (.slice y1 lS1 lS1)) aD' lD lD vD :=
              ⟨hE9.setS _ _, ((hx7.next hb79).setBox hE9.bs 0 _).setBox (two_0 hE9.bs) 1 _, ((hy7.next hb79).setBox hE9.bs 0 _).setBox (two_0 hE9.bs) 1 _, ((hy0.next hb9).setBox hE9.bs 0 _).setBox (two_0 hE9.bs) 1 _, (hy1.setBox hE9.bs 0 _).setBox (two_0 hE9.bs) 1 _, ((hN7.next hb79).setBox hE9.bs 0 _).setBox (two_0 hE9.bs) 1 _, ((hD7.next hb79).setBox hE9.bs 0 _).setBox (two_0 hE9.bs) 1 _⟩
            revert FF
            generalize (w9.setCell ⟨w.heap.size + 1, 0, none⟩ (.slice y0 lS0 lS0)).setCell ⟨w.heap.size + 1, 1, none⟩ (.slice y1 lS1 lS1) = W'
            intro FF
            exact key W' y0 y1 FF
        · rintro w10 y0 y1 ⟨hE10, hxA, hxB, hyA, hyB, hN10, hD10⟩
          clear c0 c1 hs0 hs1 hE7 hE7' hx7 hy7 hN7 hD7 hS0 hS1
          obtain ⟨c0, c1, c2, c3⟩ := hE10.four
          have hB : Below w10.heap.size w10 (w10.drewN 1) := ((Kept.of_below (Below.refl w10.heap.size w10)).drewN 1).below
          have hEB := hE10.next hB
          go_wp2_with fail
          go_region_held3 (fun w' => w'.cell? ⟨w.heap.size, 0, none⟩ = some (.slice x0 lF0 lF0) ∧ w'.cell? ⟨w.heap.size, 1, none⟩ = some (.slice x1 lF1 lF1) ∧ w'.cell? ⟨w.heap.size + 1, 0, none⟩ = some (.slice y0 lS0 lS0) ∧ w'.cell? ⟨w.heap.size + 1, 1, none⟩ = some (.slice y1 lS1 lS1)) (first | exact Env.four (by assumption) | go_keep) (first
            | (go_at_call_of 7 (Value.slice aN' n n); refine Calls.mono (copy_any (hN10.next hB) z1) ?_; rintro e w11 ⟨gN, rfl, hb11, hgN, hiN2⟩; have hB11 := hB.trans (hb11.mono hB.size); have hE11 := hEB.next hb11)
            | (go_at_call_of 7 (Value.slice aD' lD lD); refine Calls.mono (copy_any (hD10.next hB11) z2) ?_; rintro e w12 ⟨gD, rfl, hb12, hgD, hiD2⟩; have hB12 := hB11.trans (hb12.mono hB11.size); have hE12 := hE11.next hb12)
            | (go_at_call_of 7 (Value.slice x0 lF0 lF0); refine Calls.mono (copy_any (hxA.next hB12) z4) ?_; rintro e w13 ⟨gF0, rfl, hb13, hgF0, hiF0⟩; have hB13 := hB12.trans (hb13.mono hB12.size); have hE13 := hE12.next hb13)
            | (go_at_call_of 7 (Value.slice x1 lF1 lF1); refine Calls.mono (copy_any (hxB.next hB13) z5) ?_; rintro e w14 ⟨gF1, rfl, hb14, hgF1, hiF1⟩; have hB14 := hB13.trans (hb14.mono hB13.size); have hE14 := hE13.next hb14)
            | (go_at_call_of 7 (Value.slice y0 lS0 lS0); refine Calls.mono (copy_any (hyA.next hB14) z6) ?_; rintro e w15 ⟨gS0, rfl, hb15, hgS0, hiS0⟩; have hB15 := hB14.trans (hb15.mono hB14.size); have hE15 := hE14.next hb15)
            | (go_at_call_of 7 (Value.slice y1 lS1 lS1); refine Calls.mono (copy_any (hyB.next hB15) z7) ?_; rintro e w16 ⟨gS1, rfl, hb16, hgS1, hiS1⟩; have hB16 := hB15.trans (hb16.mono hB15.size); have hE16 := hE15.next hb16)
            | (go_at_call 8; refine Calls.mono (make_any w16 gN gD gF0 gF1 gS0 gS1 n n lD lD lF0 lF0 lF1 lF1 lS0 lS0 lS1 lS1 mn mo) ?_; rintro e w17 ⟨bg, rfl, hb17, hbg, k0, k1, k2, k3, k4, k5, k6, k7⟩; have hB17 := hB16.trans (hb17.mono hB16.size); have hE17 := hE16.next hb17))
          obtain ⟨g, eb, ed, en, el, hR0⟩ := ready_of (d := 1) (aD := aD) hE17 hM hbg k0 k1 k2 k3 k5 k7 (by omega) ((((((hgN.next hb12).next hb13).next hb14).next hb15).next hb16).next hb17) (((((hgD.next hb13).next hb14).next hb15).next hb16).next hb17) (((hgF1.next hb15).next hb16).next hb17) (hgS1.next hb17) (hiD2.trans hiD) hPH hTail z1 z7 hm0 hm1 (hN10.next hB17) (hxB.next hB17) (hyB.next hB17)
          have hlF : Hid (lF1 = n + 1) := hTail.1
          have ed' : ((g.d : Nat) : Int) = 1 := by rw [ed]; rfl
          clear k0 k1 k2 k3 k4 k5 k6 k7 hgN hgD hgF0 hgF1 hgS0 hgS1 hE11 hE12 hE13 hE14 hE15 hE16 hE17 hB11 hB12 hB13 hB14 hB15 hB16 hB17 hb11 hb12 hb13 hb14 hb15 hb16 hb17 hB hEB hE10 hxA hxB hyA hyB hN10 hD10 hPH hTail c0 c1 c2 c3
          go_wp2_with fail
          refine Calls.mono (newReach_any w17 g) ?_
          rintro e w18 ⟨rfl, hb18, hR18⟩
          go_wp2_with fail
          refine Calls.mono (hR0.grow hb18 hR18 eb ed' hn0 hn1 hg0 hg1) ?_
          rintro e w19 ⟨fa, rfl, rna, Sa, wka, hb19, hR19, hA19, hGa⟩
          have hE19 := (hR19.drewN 1).env
          obtain ⟨c0, c1, c2, c3⟩ := hR19.env.four
          have hA19' : RA (w19.drewN 1) g w17.heap.size rna Sa wka := hA19.below ((Kept.of_below (Below.refl w19.heap.size w19)).drewN 1).below
          have hE19' := hR19.env
          clear hb18 hR18 hb19 hR0
          go_wp2_with fail
          go_region_held3 (fun w' => w'.cell? ⟨w.heap.size, 0, none⟩ = some (.slice x0 lF0 lF0) ∧ w'.cell? ⟨w.heap.size, 1, none⟩ = some (.slice x1 lF1 lF1) ∧ w'.cell? ⟨w.heap.size + 1, 0, none⟩ = some (.slice y0 lS0 lS0) ∧ w'.cell? ⟨w.heap.size + 1, 1, none⟩ = some (.slice y1 lS1 lS1)) (first | exact Env.four (by assumption) | go_keep) ((go_at_call 24; refine Calls.mono ((hR19.drewN 1).check en hlF.out el hA19' hGa) ?_; rintro e w20 ⟨rfl, hb20, hR20⟩; have hE20 := hR20.env))
          have hAa := hA19'.below hb20
          clear hb20 hA19' hA19 hE19 hE19' hE20 c0 c1 c2 c3 hR19
          go_wp2_with fail
          refine Calls.mono (newReach_any w20 g) ?_
          rintro e w21 ⟨rfl, hb21, hR21⟩
          go_wp2_with fail
          refine Calls.mono (hR20.grow hb21 hR21 eb ed' hn0 hn1 hq0 hq1) ?_
          rintro e w22 ⟨fb, rfl, rnb, Sb, wkb, hb22, hR22, hA22, hGb⟩
          have hAa22 := hAa.below (hb22.trans (((Kept.of_below (Below.refl w22.heap.size w22)).drewN 1).below.mono hb22.size))
          have hE22 := (hR22.drewN 1).env
          obtain ⟨c0, c1, c2, c3⟩ := hR22.env.four
          have hA22' : RA (w22.drewN 1) g w20.heap.size rnb Sb wkb := hA22.below ((Kept.of_below (Below.refl w22.heap.size w22)).drewN 1).below
          have hE22' := hR22.env
          clear hb21 hR21 hb22 hR20 hAa
          go_wp2_with fail
          go_region_held3 (fun w' => w'.cell? ⟨w.heap.size, 0, none⟩ = some (.slice x0 lF0 lF0) ∧ w'.cell? ⟨w.heap.size, 1, none⟩ = some (.slice x1 lF1 lF1) ∧ w'.cell? ⟨w.heap.size + 1, 0, none⟩ = some (.slice y0 lS0 lS0) ∧ w'.cell? ⟨w.heap.size + 1, 1, none⟩ = some (.slice y1 lS1 lS1)) (first | exact Env.four (by assumption) | go_keep) ((go_at_call 24; refine Calls.mono ((hR22.drewN 1).check en hlF.out el hA22' hGb) ?_; rintro e w23 ⟨rfl, hb23, hR23⟩; have hE23 := hR23.env))
          have hAa := hAa22.below hb23
          have hAb := hA22'.below hb23
          clear hb23 hA22' hA22 hE22 hE22' hE23 c0 c1 c2 c3 hR22 hAa22
          go_wp2_with fail
          refine Calls.mono (newReach_any w23 g) ?_
          rintro e w24 ⟨rfl, hb24, hR24⟩
          go_wp2_with fail
          refine Calls.mono (hR23.grow hb24 hR24 eb ed' hn0 hn1 hg0 hg1) ?_
          rintro e w25 ⟨fr, rfl, rnr, Sr, wkr, hb25, hR25, hA25, hGr⟩
          obtain ⟨rfl, rfl, rfl, rfl⟩ := hGr.uniq hGa
          go_wp2_with fail
          refine Calls.mono (hR23.again hb25 hA25 eb ed' hn0 hn1 hq0 hq1 hGr hGb) ?_
          rintro e w26 ⟨f2, rfl, hb26, hR26, hcase⟩
          have hAa26 := hAa.below hb26
          have hAb26 := hAb.below hb26
          have sa := hGa.small hR23.ok hAa
          have sb := hGb.small hR23.ok hAb
          have hok := hR23.ok
          have hwa := walked_any hAa26
          have hwb := walked_any hAb26
          have hE26 := hR26.env.below
          clear hb24 hR24 hb25 hR25 hA25 hGr hGb hGa hAa hAb hR23 hb26 hR26
          rcases hcase with ⟨hlt, hAr, hsum⟩ | ⟨hge, hAr, hsum⟩
          · have hcmp : decide ((wkr : Int) < (wkb : Int)) = true := by simpa using hlt
            have hwr := wrap_in ((fr : Int) + (f2 : Int)) (by omega) (by omega)
            have hsm := same_of hok en hAr hAb26
            have hs' : ((fr : Int) + (f2 : Int)) = (fb : Int) := by omega
            go_wp2_with fail
            refine Calls.mono hwb ?_
            rintro e w27 ⟨rfl, rfl⟩
            go_wp2_with fail
            refine Calls.mono hwa ?_
            rintro e w28 ⟨rfl, rfl⟩
            go_wp2_with fail
            refine Calls.mono hsm ?_
            rintro e w29 ⟨rfl, hb29⟩
            go_wp2_with fail
            go_ret
            exact ⟨rfl, hE26.trans (hb29.mono hE26.size)⟩
          · have hcmp : decide ((wkr : Int) < (wkb : Int)) = false := by simpa using hge
            have hwr := wrap_in ((fr : Int) + (f2 : Int)) (by omega) (by omega)
            have hsm := same_of hok en hAr hAa26
            have hs' : ((fr : Int) + (f2 : Int)) = (fr : Int) := by omega
            go_wp2_with fail
            refine Calls.mono hwb ?_
            rintro e w27 ⟨rfl, rfl⟩
            go_wp2_with fail
            refine Calls.mono hwa ?_
            rintro e w28 ⟨rfl, rfl⟩
            go_wp2_with fail
            refine Calls.mono hsm ?_
            rintro e w29 ⟨rfl, hb29⟩
            go_wp2_with fail
            go_ret
            exact ⟨rfl, hE26.trans (hb29.mono hE26.size)⟩

end Go.Proofs.Qxb6619590a
