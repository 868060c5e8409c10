/-
  Statement 5: the row.
-/
import Derived.Test.Qxb6619590aGrSaid
import Derived.Test.Qxb6619590aGrOpen
import Derived.Test.Qxb6619590aRows
import Derived.WalkKit
import Derived.ProofKit
import Derived.Carry
import Derived.OpenShut
namespace Go.Proofs.Qxb6619590a
open Go.ChangeShapes Go.WideShapes Go.ChangeAt Go.RowKit Go.Deep

theorem Try.own5 : ownKnob Try.prog.godebug = none := by kernel_rfl
theorem Try.laidOut5 : laidOutB Try.pinned.checked.prog = true := by kernel_rfl

set_option maxRecDepth 100000 in
theorem twice_lifted (main5 : Main5T) (os : Os) (started : os.Started) (H : Type) (enc : TypeId × Value → H) :
    ReturnsInHanded {} Try.checked os 5 .any (Rows.fnReachGrowTwiceEqualsGrowToLaterGoalSpec.pre6 enc Try.prog Try.f5 Rows.fnReachGrowTwiceEqualsGrowToLaterGoalRow.domain false) (Rows.fnReachGrowTwiceEqualsGrowToLaterGoalSpec.post enc Try.prog Try.f5 false true false false) := by
  refine returnsInHanded_of_change (C := Try.checked) Try.own5 started (by kernel_rfl) Try.func5
    (ChangeSpec.witness6 (enc := enc) (C := Try.checked) false ⟨#[], #[.slice none 0 0, .int .i32 0, .slice none 0 0, .map none, .agg #[.slice none 0 0, .slice none 0 0], .agg #[.slice none 0 0, .slice none 0 0], .int .i32 0, .int .i64 0, .int .i32 0, .int .i32 0], []⟩ 8 (by kernel_rfl) (by kernel_rfl) (by kernel_rfl) (by kernel_rfl)) ?_
  intro W base args ds gs before hval0 hW _ _
  have hval : ∀ (j : Nat) t v, Try.f5.params[j]? = some t → args[j]? = some v → Value.okWide Try.prog W .any base t v := hval0
  have hW' := hW
  obtain ⟨p, q, hA0, hV, rfl, hfz, hnd⟩ := hW
  have hA : DataW.TrodAll enc Try.prog W 0 (fun _ => true) true Try.f5.params.toList args.toList ds p := hA0
  rw [Try.params5] at hA hval
  obtain ⟨v0, vs0, d0, ds0, p0, q0, hargs, rfl, rfl, h0, r0⟩ := trodAll_cons hA
  obtain ⟨v1, vs1, d1, ds1, p1, q1, rfl, rfl, rfl, h1, r1⟩ := trodAll_cons r0
  obtain ⟨v2, vs2, d2, ds2, p2, q2, rfl, rfl, rfl, h2, r2⟩ := trodAll_cons r1
  obtain ⟨v3, vs3, d3, ds3, p3, q3, rfl, rfl, rfl, h3, r3⟩ := trodAll_cons r2
  obtain ⟨v4, vs4, d4, ds4, p4, q4, rfl, rfl, rfl, h4, r4⟩ := trodAll_cons r3
  obtain ⟨v5, vs5, d5, ds5, p5, q5, rfl, rfl, rfl, h5, r5⟩ := trodAll_cons r4
  obtain ⟨v6, vs6, d6, ds6, p6, q6, rfl, rfl, rfl, h6, r6⟩ := trodAll_cons r5
  obtain ⟨v7, vs7, d7, ds7, p7, q7, rfl, rfl, rfl, h7, r7⟩ := trodAll_cons r6
  obtain ⟨v8, vs8, d8, ds8, p8, q8, rfl, rfl, rfl, h8, r8⟩ := trodAll_cons r7
  obtain ⟨v9, vs9, d9, ds9, p9, q9, rfl, rfl, rfl, h9, r9⟩ := trodAll_cons r8
  obtain ⟨rfl, rfl, rfl⟩ := trodAll_nil r9
  obtain rfl : args = #[v0, v1, v2, v3, v4, v5, v6, v7, v8, v9] := by cases args; simp_all
  obtain ⟨rfl, rfl⟩ := trodVars_none hV
  obtain ⟨x1, rfl, rfl, rfl, w1⟩ := open_int Try.underlying21 (hval 1 21 v1 rfl rfl) h1
  obtain ⟨x6, rfl, rfl, rfl, w6⟩ := open_int Try.underlying21 (hval 6 21 v6 rfl rfl) h6
  obtain ⟨x7, rfl, rfl, rfl, w7⟩ := open_int Try.underlying3 (hval 7 3 v7 rfl rfl) h7
  obtain ⟨x8, rfl, rfl, rfl, w8⟩ := open_int Try.underlying21 (hval 8 21 v8 rfl rfl) h8
  obtain ⟨x9, rfl, rfl, rfl, w9⟩ := open_int Try.underlying21 (hval 9 21 v9 rfl rfl) h9
  have h0k := h0
  have h2k := h2
  have h3k := h3
  have h4k := h4
  have h5k := h5
  clear hA0
  simp only [List.append_nil, List.nil_append] at hW'
  have hlt : ∀ x ∈ p0 ++ (p2 ++ (p3 ++ (p4 ++ (p5)))), x.block < W.heap.size := fun x hx => by simpa using hW'.lt x (by simpa using hx)
  obtain ⟨a0, n0, c0, rfl⟩ := okWide_slice Try.underlying22 (hval 0 22 v0 rfl rfl)
  obtain ⟨a2, n2, c2, rfl⟩ := okWide_slice Try.underlying22 (hval 2 22 v2 rfl rfl)
  obtain ⟨fu0, hf0⟩ := h0
  obtain ⟨fu2, hf2⟩ := h2
  obtain ⟨_, _, _, f0, e0, s0, l0⟩ := open_sl (by simpa [Value.cells] using hf0)
  obtain ⟨_, _, _, f2, e2, s2, l2⟩ := open_sl (by simpa [Value.cells] using hf2)
  injection e0 with e01 e02 e03
  injection e2 with e21 e22 e23
  subst e01 e02 e03 e21 e22 e23
  obtain ⟨mo, ml, lv, lb, rfl, hM, lM⟩ := open_mp (hval 3 41 v3 rfl rfl) h3
  obtain ⟨a4, n4, c4, f4, a4', n4', c4', f4', rfl, s4, l4, s4', l4'⟩ := open_pair (hval 4 30 v4 rfl rfl) h4
  obtain ⟨a5, n5, c5, f5, a5', n5', c5', f5', rfl, s5, l5, s5', l5'⟩ := open_pair (hval 5 30 v5 rfl rfl) h5
  obtain ⟨m1, m1'⟩ := of_wf32 w1
  obtain ⟨m6, m6'⟩ := of_wf32 w6
  obtain ⟨m8, m8'⟩ := of_wf32 w8
  obtain ⟨m9, m9'⟩ := of_wf32 w9
  refine (main5 W a0 a2 a4 a4' a5 a5' n0 c0 n2 c2 n4 c4 n4' c4' n5 c5 n5' c5' ml f0 f2 f4 f4' f5 f5' x1 x6 x8 x9 x7 mo lv lb s0 s2 s4 s4' s5 s5' hM ⟨l0, l2, lM, l4, l4', l5, l5'⟩ m1 m1' m6 m6' m8 m8' m9 m9').mono fun e W' ⟨he, hb⟩ => ?_
  subst he
  have t0 : DataW.Trod enc Try.prog W' 0 (fun b => decide (b < W.heap.size)) true 22 (.slice a0 n0 c0) d0 p0 := Below.trod Try.laidOut5 (by kernel_rfl) (of_decide_eq_true (by kernel_rfl)) h0k hb (fun x hx => hlt x (by simp [hx]))
  have t2 : DataW.Trod enc Try.prog W' 0 (fun b => decide (b < W.heap.size)) true 22 (.slice a2 n2 c2) d2 p2 := Below.trod Try.laidOut5 (by kernel_rfl) (of_decide_eq_true (by kernel_rfl)) h2k hb (fun x hx => hlt x (by simp [hx]))
  have t3 : DataW.Trod enc Try.prog W' 0 (fun b => decide (b < W.heap.size)) true 41 (.map mo) d3 p3 := Below.trod Try.laidOut5 (by kernel_rfl) (of_decide_eq_true (by kernel_rfl)) h3k hb (fun x hx => hlt x (by simp [hx]))
  have t4 : DataW.Trod enc Try.prog W' 0 (fun b => decide (b < W.heap.size)) true 30 (.agg #[.slice a4 n4 c4, .slice a4' n4' c4']) d4 p4 := Below.trod Try.laidOut5 (by kernel_rfl) (of_decide_eq_true (by kernel_rfl)) h4k hb (fun x hx => hlt x (by simp [hx]))
  have t5 : DataW.Trod enc Try.prog W' 0 (fun b => decide (b < W.heap.size)) true 30 (.agg #[.slice a5 n5 c5, .slice a5' n5' c5']) d5 p5 := Below.trod Try.laidOut5 (by kernel_rfl) (of_decide_eq_true (by kernel_rfl)) h5k hb (fun x hx => hlt x (by simp [hx]))
  refine ⟨_, rfl, _, _, _, [], p0 ++ ([] ++ (p2 ++ (p3 ++ (p4 ++ (p5 ++ ([] ++ ([] ++ ([] ++ ([] ++ []))))))))), [], hW', trodAll_cons_mk (shut_bool Try.underlying4 _) trodAll_mk0, ?_, rfl, hb.frame _, fun h => by cases h⟩
  exact trodAll_cons_mk t0 (trodAll_cons_mk (shut_int Try.underlying21 w1) (trodAll_cons_mk t2 (trodAll_cons_mk t3 (trodAll_cons_mk t4 (trodAll_cons_mk t5 (trodAll_cons_mk (shut_int Try.underlying21 w6) (trodAll_cons_mk (shut_int Try.underlying3 w7) (trodAll_cons_mk (shut_int Try.underlying21 w8) (trodAll_cons_mk (shut_int Try.underlying21 w9) trodAll_mk0)))))))))

theorem twice_of (main5 : Main5T) : Rows.FnReachGrowTwiceEqualsGrowToLaterGoalSaid :=
  OpenClaim.holds_of_wide 5 Try.f5 rfl rfl rfl rfl rfl rfl rfl ⟨rfl, rfl, rfl, rfl, rfl⟩ rfl rfl rfl rfl rfl (by kernel_rfl) Try.func5 (by kernel_rfl)
    (of_decide_eq_true (by kernel_rfl)) (by unfold Func.isWrapper; first | (rw [if_pos (by decide +kernel)]; kernel_rfl) | (rw [if_neg (by decide +kernel)]; exact ⟨rfl, rfl⟩))
    (fun os started H enc _ => twice_lifted main5 os started H enc)

end Go.Proofs.Qxb6619590a
