/-
  Statement 1: FnSplitKeepsKeysAndCutsAtRunKeys: the row.
-/
import Derived.Test.Qxb6618050aSpMain
import Derived.Test.Qxb6618050aSpOpen
import Derived.WalkKit
import Derived.ProofKit
import Derived.Carry
import Derived.OpenShut
namespace Go.Proofs.Qxb6618050a
open Go.ChangeShapes Go.WideShapes Go.ChangeAt Go.RowKit Go.Deep
open Go.ChangeMaps (open_string shut_string)

theorem Try.own : ownKnob Try.prog.godebug = none := by kernel_rfl
theorem Try.laidOut : laidOutB Try.pinned.checked.prog = true := by kernel_rfl

set_option maxRecDepth 100000 in
theorem split_lifted (os : Os) (started : os.Started) (H : Type) (enc : TypeId × Value → H) :
    ReturnsInHanded {} Try.checked os 3 .any (Rows.fnSplitKeepsKeysAndCutsAtRunKeysSpec.pre6 enc Try.prog Try.f3 Rows.fnSplitKeepsKeysAndCutsAtRunKeysRow.domain false) (Rows.fnSplitKeepsKeysAndCutsAtRunKeysSpec.post enc Try.prog Try.f3 false true false false) := by
  refine returnsInHanded_of_change (C := Try.checked) Try.own started (by kernel_rfl) Try.func3
    (ChangeSpec.witness6 (enc := enc) (C := Try.checked) false ⟨#[], #[.slice none 0 0, .slice none 0 0, .slice none 0 0, .int .i64 0, .string ⟨#[]⟩, .int .i64 0], []⟩ 8 (by kernel_rfl) (by kernel_rfl) (by kernel_rfl) (by kernel_rfl)) ?_
  intro W base args ds gs before hval0 hW _ _
  have hval : ∀ (j : Nat) t v, Try.f3.params[j]? = some t → args[j]? = some v → Value.okWide Try.prog W .any base t v := hval0
  have hW' := hW
  obtain ⟨p, q, hA0, hV, rfl, hfz, hnd⟩ := hW
  have hA : DataW.TrodAll enc Try.prog W 0 (fun _ => true) true Try.f3.params.toList args.toList ds p := hA0
  rw [Try.params3] at hA hval
  obtain ⟨v0, vs0, d0, ds0, p0, q0, hargs, rfl, rfl, h0, r0⟩ := trodAll_cons hA
  obtain ⟨v1, vs1, d1, ds1, p1, q1, rfl, rfl, rfl, h1, r1⟩ := trodAll_cons r0
  obtain ⟨v2, vs2, d2, ds2, p2, q2, rfl, rfl, rfl, h2, r2⟩ := trodAll_cons r1
  obtain ⟨v3, vs3, d3, ds3, p3, q3, rfl, rfl, rfl, h3, r3⟩ := trodAll_cons r2
  obtain ⟨v4, vs4, d4, ds4, p4, q4, rfl, rfl, rfl, h4, r4⟩ := trodAll_cons r3
  obtain ⟨v5, vs5, d5, ds5, p5, q5, rfl, rfl, rfl, h5, r5⟩ := trodAll_cons r4
  obtain ⟨rfl, rfl, rfl⟩ := trodAll_nil r5
  obtain rfl : args = #[v0, v1, v2, v3, v4, v5] := by cases args; simp_all
  obtain ⟨rfl, rfl⟩ := trodVars_none hV
  obtain ⟨a0, n0, c0, rfl⟩ := okWide_slice Try.underlying22 (hval 0 22 v0 rfl rfl)
  obtain ⟨a1, n1, c1, rfl⟩ := okWide_slice Try.underlying23 (hval 1 23 v1 rfl rfl)
  obtain ⟨a2, n2, c2, rfl⟩ := okWide_slice Try.underlying23 (hval 2 23 v2 rfl rfl)
  obtain ⟨x3, rfl, rfl, rfl, w3⟩ := open_int Try.underlying3 (hval 3 3 v3 rfl rfl) h3
  obtain ⟨s4, rfl, rfl, rfl, hs4⟩ := open_string Try.underlying9 (hval 4 9 v4 rfl rfl) h4
  obtain ⟨x5, rfl, rfl, rfl, w5⟩ := open_int Try.underlying3 (hval 5 3 v5 rfl rfl) h5
  have h0k := h0
  have h1k := h1
  have h2k := h2
  obtain ⟨fu0, hf0⟩ := h0
  obtain ⟨fu1, hf1⟩ := h1
  obtain ⟨fu2, hf2⟩ := h2
  clear hA0 hval0
  simp only [List.append_nil] at hW'
  have hlt : ∀ x ∈ p0 ++ (p1 ++ p2), x.block < W.heap.size := fun x hx => by simpa using hW'.lt x (by simpa using hx)
  obtain ⟨A0, L0, C0, S0, g0, hS0, hn0⟩ := open_keys (by simpa [Value.cells] using hf0)
  obtain ⟨A1, L1, C1, Z1, g1, hn1⟩ := open_bytes (by simpa [Value.cells] using hf1)
  obtain ⟨A2, L2, C2, Z2, g2, hn2⟩ := open_bytes (by simpa [Value.cells] using hf2)
  refine (fn3_any W a0 a1 a2 n0 c0 n1 c1 n2 c2 A0 A1 A2 L0 C0 L1 C1 L2 C2 S0 Z1 Z2 x3 x5 s4 g0 g1 g2 hS0 (by unfold maxLen at hs4; omega) hn0 hn1 hn2).mono fun e W' ⟨he, hb⟩ => ?_
  subst he
  have t0 : DataW.Trod enc Try.prog W' 0 (fun b => decide (b < W.heap.size)) true 22 (.slice a0 n0 c0) d0 p0 := Below.trod Try.laidOut (by kernel_rfl) (of_decide_eq_true (by kernel_rfl)) h0k hb (fun x hx => hlt x (by simp [hx]))
  have t1 : DataW.Trod enc Try.prog W' 0 (fun b => decide (b < W.heap.size)) true 23 (.slice a1 n1 c1) d1 p1 := Below.trod Try.laidOut (by kernel_rfl) (of_decide_eq_true (by kernel_rfl)) h1k hb (fun x hx => hlt x (by simp [hx]))
  have t2 : DataW.Trod enc Try.prog W' 0 (fun b => decide (b < W.heap.size)) true 23 (.slice a2 n2 c2) d2 p2 := Below.trod Try.laidOut (by kernel_rfl) (of_decide_eq_true (by kernel_rfl)) h2k hb (fun x hx => hlt x (by simp [hx]))
  refine ⟨_, rfl, _, _, _, [], p0 ++ (p1 ++ (p2 ++ [])), [], hW', trodAll_cons_mk (shut_bool Try.underlying4 _) trodAll_mk0, ?_, rfl, hb.frame _, fun h => by cases h⟩
  exact trodAll_cons_mk t0 (trodAll_cons_mk t1 (trodAll_cons_mk t2 (trodAll_cons_mk (shut_int Try.underlying3 w3) (trodAll_cons_mk (shut_string Try.underlying9 hs4) (trodAll_cons_mk (shut_int Try.underlying3 w5) trodAll_mk0)))))

theorem split_holds : Rows.FnSplitKeepsKeysAndCutsAtRunKeysSaid :=
  OpenClaim.holds_of_wide 3 Try.f3 rfl rfl rfl rfl rfl rfl rfl ⟨rfl, rfl, rfl, rfl, rfl⟩ rfl rfl rfl rfl rfl (by kernel_rfl) Try.func3 (by kernel_rfl)
    (of_decide_eq_true (by kernel_rfl)) (by unfold Func.isWrapper; first | (rw [if_pos (by decide +kernel)]; kernel_rfl) | (rw [if_neg (by decide +kernel)]; exact ⟨rfl, rfl⟩))
    (fun os started H enc _ => split_lifted os started H enc)

end Go.Proofs.Qxb6618050a
