/-
  Statement 3: function 14, (Schedule).Check, and function 16, stepsValid.
-/
import Derived.Test.Qxb6619576aFmtSkStep
namespace Go.Proofs.Qxb6619576aFmt
open Go.RowKit Go.Extern.Stop Go.Stop Go.Extern Go.Deep
attribute [local go_sem] Tryf.call26 Tryf.guard Tryf.ptr60 Tryf.elem60 Tryf.ptr59 Tryf.elem59 Tryf.isError60 Tryf.fmtA Tryf.fmtB Tryf.fmtC Tryf.fmtD Tryf.op3 Tryf.op22 run_store_float

theorem step_any (I : Interp) (w : World) (hF : I.answers w.tape) (b o n cp k : Nat) (D : Nat → Int) (F : Nat → Nat) (h : Steps w b o n D F) (hkn : k < n) (hn2 : n ≤ 1048576) :
    Calls Tryf.prog 18 #[.slice (some ⟨b, o, none⟩) n cp, .int .i64 (k : Int)] w (ErrIs w (stepB D F k)) := by
  by_cases hk : k = 0
  · subst hk
    exact step_zero I w hF b o n cp D F h hkn
  · exact step_succ I w hF b o n cp k D F h (by omega) hkn hn2

set_option maxHeartbeats 1000000 in
theorem errorf_d (I : Interp) (w : World) (hF : I.answers w.tape) (m : Nat) (x : Int) (a : Addr) (s : ByteArray) (c0 : w.cell? ⟨m, 0, none⟩ = some (.iface 3 (.int .i64 x))) (c1 : w.cell? ⟨m, 1, none⟩ = some (.iface 60 (.pointer (some a)))) (hs : w.cell? a = some (.string s)) :
    Calls Tryf.prog 23 #[.string ⟨#[115, 116, 101, 112, 32, 37, 100, 58, 32, 37, 119]⟩, .slice (some ⟨m, 0, none⟩) 2 2] w fun e w' => ∃ a, e = .returned (.iface 59 (.pointer (some a))) ∧ Below w.heap.size w w' := by
  have hF' := answers_open hF
  have hop := Tryf.opPlain60 "fmt.errorf" a s w hs
  go_enter Tryf.func23, Tryf.ntmps23
  go_wp2
  go_ret
  exact ⟨_, rfl, ((Below.refl _ w).alloc (Nat.le_refl _) _).drew⟩

/-- nil, or some error. -/
def NilIs (w : World) (ok : Prop) (e : Ending) (w' : World) : Prop := Below w.heap.size w w' ∧ ((ok ∧ e = .returned .nilIface) ∨ (¬ ok ∧ ∃ u x, e = .returned (.iface u x)))

set_option maxRecDepth 100000 in
set_option maxHeartbeats 1000000 in
theorem check_any (I : Interp) (w : World) (hF : I.answers w.tape) (b o n cp : Nat) (D : Nat → Int) (F : Nat → Nat) (h : Steps w b o n D F) (hn : 0 < n) (hn2 : n ≤ 1048576) :
    Calls Tryf.prog 14 #[.slice (some ⟨b, o, none⟩) n cp] w (NilIs w (Valid D F n)) := by
  have hz : ((n : Int) == 0) = false := by simp; omega
  have HV : Hid (Valid D F n ↔ ∀ k, k < n → stepB D F k = true) := valid_steps n hn
  go_enter Tryf.func14, Tryf.ntmps14
  go_wp2_with fail
  go_loopg [11] n (fun g i wr => ∃ k : Nat, k ≤ n ∧ g = n - k ∧ i = .int .i64 k ∧ Below w.heap.size w wr ∧ Hid (∀ j, j < k → stepB D F j = true))
  case atStart => exact ⟨0, Nat.zero_le _, rfl, rfl, Below.refl _ _, fun j hj => absurd hj (Nat.not_lt_zero j)⟩
  case round =>
    obtain ⟨k, hk, rfl, rfl, hb, hall⟩ := hrel
    by_cases hlt : k < n
    · have hst := h.below hb
      have hFr : I.answers wr.tape := by rw [hb.tape]; exact hF
      go_wp2_with fail
      refine Calls.mono (step_any I wr hFr b o n cp k D F hst hlt hn2) ?_
      rintro e w1 ⟨hb1, ⟨h1, rfl⟩ | ⟨h1, a, s, rfl, hc⟩⟩
      · have hall' : Hid (∀ j, j < k + 1 → stepB D F j = true) := by
          show ∀ j, j < k + 1 → stepB D F j = true
          intro j hj
          by_cases e : j = k
          · subst e; exact h1
          · exact hall.out j (by omega)
        have hb' := hb.trans (hb1.mono hb.size)
        clear h1 hb1 hb hst hFr hall
        go_wp2_with fail
        go_roundg (n - (k + 1))
        case measure => omega
        case rel => exact ⟨k + 1, by omega, rfl, by go_num, hb', hall'⟩
      · have hno : Hid (¬ Valid D F n) := fun hv => by
          have := HV.out.1 hv k hlt
          rw [this] at h1
          cases h1
        have hb' := hb.trans (hb1.mono hb.size)
        have hF1 : I.answers w1.tape := by rw [hb'.tape]; exact hF
        have hlt1 := World.block_lt_of_cell? _ _ hc
        clear h1 hb1 hb hst hFr hall HV h
        go_wp2_with fail
        refine Calls.mono (errorf_d I _ (by exact hF1) w1.heap.size ((k : Int) + 1) a s (by go_simp) (by go_simp) (by rw [World.cell?_alloc_old _ _ _ (by omega)]; exact hc)) ?_
        rintro e w2 ⟨a', rfl, hb2⟩
        go_wp2_with fail
        go_ret
        exact ⟨hb'.trans ((((Below.refl _ w1).alloc (Nat.le_refl _) _).trans (hb2.mono (by simp))).mono hb'.size), .inr ⟨hno.out, _, _, rfl⟩⟩
    · obtain rfl : n = k := by omega
      go_wp2_with fail
      go_ret
      exact ⟨hb, .inl ⟨HV.out.2 hall.out, rfl⟩⟩

end Go.Proofs.Qxb6619576aFmt
