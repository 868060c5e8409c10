/-
  Statement 3: function 18, (Schedule).CheckStep.
-/
import Derived.Test.Qxb6619576aFmtSkFmt
import Derived.Deep.RegionWith
namespace Go.Proofs.Qxb6619576aFmt
open Go.RowKit Go.Extern.Stop Go.Stop Go.Extern Go.Deep
attribute [local go_sem] Tryf.call26 Tryf.guard Tryf.ptr60 Tryf.elem60 Tryf.ptr59 Tryf.elem59 Tryf.isError60 Tryf.fmtA Tryf.fmtB Tryf.fmtC Tryf.fmtD Tryf.op3 Tryf.op22 run_store_float

theorem below_draws {B : Nat} {a w : World} (h : Below B a w) (n : Nat) : Below B a (w.drewN n) := ⟨h.os, h.tape, h.output, h.size, h.block⟩
theorem cell_last {w : World} {m : Nat} (h : w.heap.size = m) (v : Value) (t : TypeId) : ((w.alloc (.cells #[v] t)).drew).cell? ⟨m, 0, none⟩ = some v := by
  subst h
  show (w.alloc (.cells #[v] t)).cell? _ = _
  unfold World.cell?
  rw [blk_alloc_new]
  rfl

/-- The steps at ⟨b, o⟩: day and share, two cells each. -/
structure Steps (w : World) (b o n : Nat) (D : Nat → Int) (F : Nat → Nat) : Prop where
  lt : b < w.heap.size
  day : ∀ k, k < n → w.cell? ⟨b, o + k * 2, none⟩ = some (.int .i64 (D k))
  share : ∀ k, k < n → w.cell? ⟨b, o + k * 2 + 1, none⟩ = some (.float .f64 (F k))

theorem Steps.below {w w' : World} {b o n : Nat} {D : Nat → Int} {F : Nat → Nat} (h : Steps w b o n D F) (hb : Below w.heap.size w w') : Steps w' b o n D F :=
  ⟨Nat.lt_of_lt_of_le h.lt hb.size, fun k hk => by rw [hb.cell (p := ⟨b, o + k * 2, none⟩) h.lt]; exact h.day k hk, fun k hk => by rw [hb.cell (p := ⟨b, o + k * 2 + 1, none⟩) h.lt]; exact h.share k hk⟩

set_option maxHeartbeats 1000000 in
theorem step_zero (I : Interp) (w : World) (hF : I.answers w.tape) (b o n cp : Nat) (D : Nat → Int) (F : Nat → Nat) (h : Steps w b o n D F) (hn : 0 < n) :
    Calls Tryf.prog 18 #[.slice (some ⟨b, o, none⟩) n cp, .int .i64 0] w (ErrIs w (stepB D F 0)) := by
  have hlt := h.lt
  have c0 := h.day 0 hn
  have c1 := h.share 0 hn
  simp only [Nat.zero_mul, Nat.add_zero] at c0 c1
  have e0 : stepB D F 0 = (decide (D 0 = 1) && shareB (F 0)) := by rw [stepB, if_pos rfl]
  by_cases hd : D 0 = 1
  · rw [e0, decide_eq_true hd, Bool.true_and]
    obtain ⟨d, hdd⟩ : ∃ d, d = D 0 := ⟨_, rfl⟩
    obtain ⟨f, hff⟩ : ∃ f, f = F 0 := ⟨_, rfl⟩
    rw [← hdd] at c0 hd
    rw [← hff] at c1 ⊢
    subst hd
    clear e0 hdd hff h
    go_enter Tryf.func18, Tryf.ntmps18
    go_wp2_with fail
    go_quiet (fail)
    go_wp2_with fail
    refine Calls.mono (share_any I _ (by exact hF) f) ?_
    rintro e w' he
    rcases he with ⟨hb, ⟨h1, rfl⟩ | ⟨h1, a, s, rfl, hc⟩⟩
    · go_wp2_with fail
      go_ret
      exact ErrIs.from (below_draws ((Below.refl _ w).alloc (Nat.le_refl _) _) nq) ⟨hb, .inl ⟨h1, rfl⟩⟩
    · go_wp2_with fail
      go_ret
      exact ErrIs.from (below_draws ((Below.refl _ w).alloc (Nat.le_refl _) _) nq) ⟨hb, .inr ⟨h1, a, s, rfl, hc⟩⟩
  · have hd' : (D 0 == 1) = false := by simpa using hd
    have hF' := answers_open hF
    rw [e0, decide_eq_false hd, Bool.false_and]
    obtain ⟨d, hdd⟩ : ∃ d, d = D 0 := ⟨_, rfl⟩
    rw [← hdd] at c0 hd hd'
    clear e0 hdd h
    go_enter Tryf.func18, Tryf.ntmps18
    go_wp2
    go_ret
    exact ErrIs.no ((((Below.refl _ w).alloc (Nat.le_refl _) _).alloc (by simp) _).alloc (by simp; omega) _).drew (cell_last (by simp) _ _)

set_option maxHeartbeats 1000000 in
theorem errorf_b (I : Interp) (w : World) (hF : I.answers w.tape) (m : Nat) (x y : Int) (c0 : w.cell? ⟨m, 0, none⟩ = some (.iface 3 (.int .i64 x))) (c1 : w.cell? ⟨m, 1, none⟩ = some (.iface 3 (.int .i64 y))) :
    Calls Tryf.prog 23 #[.string ⟨#[100, 97, 121, 32, 37, 100, 32, 105, 115, 32, 110, 111, 116, 32, 97, 102, 116, 101, 114, 32, 116, 104, 101, 32, 112, 114, 101, 118, 105, 111, 117, 115, 32, 115, 116, 101, 112, 39, 115, 32, 37, 100]⟩, .slice (some ⟨m, 0, none⟩) 2 2] w fun e w' => ∃ a s, e = .returned (.iface 60 (.pointer (some a))) ∧ w'.cell? a = some (.string s) ∧ Below w.heap.size w w' := by
  have hF' := answers_open hF
  go_enter Tryf.func23, Tryf.ntmps23
  go_wp2
  go_ret
  exact ⟨_, _, rfl, cell_last rfl _ _, ((Below.refl _ w).alloc (Nat.le_refl _) _).drew⟩

set_option maxHeartbeats 1000000 in
theorem step_succ (I : Interp) (w : World) (hF : I.answers w.tape) (b o n cp k : Nat) (D : Nat → Int) (F : Nat → Nat) (h : Steps w b o n D F) (hk : 0 < k) (hkn : k < n) (hn2 : n ≤ 1048576) :
    Calls Tryf.prog 18 #[.slice (some ⟨b, o, none⟩) n cp, .int .i64 (k : Int)] w (ErrIs w (stepB D F k)) := by
  have hlt := h.lt
  have c0 := h.day k hkn
  have c1 := h.share k hkn
  have c2 := h.day (k - 1) (by omega)
  have e0 : stepB D F k = (decide (D (k - 1) < D k) && shareB (F k)) := by rw [stepB, if_neg (by omega)]
  have hz : ((k : Int) == 0) = false := by simp; omega
  have hp : (0 : Int) < (k : Int) := by omega
  have hw1 := wrap_in ((k : Int) - 1) (by omega) (by omega)
  obtain ⟨f, hff⟩ : ∃ f, f = F k := ⟨_, rfl⟩
  by_cases hd : D (k - 1) < D k
  · rw [e0, decide_eq_true hd, Bool.true_and]
    obtain ⟨d, hdd⟩ : ∃ d, d = D k := ⟨_, rfl⟩
    obtain ⟨d', hdd'⟩ : ∃ d', d' = D (k - 1) := ⟨_, rfl⟩
    rw [← hdd] at c0 hd
    rw [← hdd'] at c2 hd
    rw [← hff] at c1 ⊢
    clear e0 hdd hff hdd' h
    go_enter Tryf.func18, Tryf.ntmps18
    go_wp2_with fail
    go_quiet (fail)
    go_wp2_with fail
    refine Calls.mono (share_any I _ (by exact hF) f) ?_
    rintro e w' he
    rcases he with ⟨hb, ⟨h1, rfl⟩ | ⟨h1, a, s, rfl, hc⟩⟩
    · go_wp2_with fail
      go_ret
      exact ErrIs.from (below_draws ((Below.refl _ w).alloc (Nat.le_refl _) _) nq) ⟨hb, .inl ⟨h1, rfl⟩⟩
    · go_wp2_with fail
      go_ret
      exact ErrIs.from (below_draws ((Below.refl _ w).alloc (Nat.le_refl _) _) nq) ⟨hb, .inr ⟨h1, a, s, rfl, hc⟩⟩
  · rw [e0, decide_eq_false hd, Bool.false_and]
    have hF' := answers_open hF
    obtain ⟨d, hdd⟩ : ∃ d, d = D k := ⟨_, rfl⟩
    obtain ⟨d', hdd'⟩ : ∃ d', d' = D (k - 1) := ⟨_, rfl⟩
    rw [← hdd] at c0 hd
    rw [← hdd'] at c2 hd
    clear e0 hdd hff hdd' h
    go_enter Tryf.func18, Tryf.ntmps18
    go_wp2_with fail
    go_quiet (fail)
    go_wp2_with fail
    go_region_with (go_at_call 23; refine Calls.mono (errorf_b I _ (by exact hF) (w.heap.size + 1) d d' (by go_simp) (by go_simp)) ?_; rintro e w' ⟨a, s, rfl, hc, hb⟩)
    all_goals
      go_wp2_with fail
      go_ret
      exact ErrIs.from (((below_draws ((Below.refl _ w).alloc (Nat.le_refl _) _) nq).alloc (by simp) _).drew) ⟨hb, .inr ⟨rfl, a, s, rfl, hc⟩⟩

end Go.Proofs.Qxb6619576aFmt
