/-
  Statement 3: function 6, the law.
-/
import Derived.Test.Qxb6619576aFmtSkCheck
import Derived.Test.Qxb6619576aFmtSkValid
import Derived.Test.Qxb6619576aFmtSkCopy
namespace Go.Proofs.Qxb6619576aFmt
open Go.RowKit Go.Extern.Stop Go.Stop Go.Extern Go.Deep

theorem ErrIs.of_true {w : World} {g : Bool} {e : Ending} {w' : World} (h : ErrIs w g e w') (hg : g = true) : e = .returned .nilIface ∧ Below w.heap.size w w' := by
  subst hg
  obtain ⟨hb, ⟨_, rfl⟩ | ⟨h1, _⟩⟩ := h
  · exact ⟨rfl, hb⟩
  · cases h1
theorem ErrIs.of_false {w : World} {g : Bool} {e : Ending} {w' : World} (h : ErrIs w g e w') (hg : g = false) : ∃ u x, e = .returned (.iface u x) ∧ Below w.heap.size w w' := by
  subst hg
  obtain ⟨hb, ⟨h1, _⟩ | ⟨_, a, s, rfl, _⟩⟩ := h
  · cases h1
  · exact ⟨_, _, rfl, hb⟩
theorem NilIs.of_true {w : World} {p : Prop} {e : Ending} {w' : World} (h : NilIs w p e w') (hp : p) : e = .returned .nilIface ∧ Below w.heap.size w w' := by
  obtain ⟨hb, ⟨_, rfl⟩ | ⟨h1, _⟩⟩ := h
  · exact ⟨rfl, hb⟩
  · exact absurd hp h1
theorem NilIs.of_false {w : World} {p : Prop} {e : Ending} {w' : World} (h : NilIs w p e w') (hp : ¬ p) : ∃ u x, e = .returned (.iface u x) ∧ Below w.heap.size w w' := by
  obtain ⟨hb, ⟨h1, _⟩ | ⟨_, u, x, rfl⟩⟩ := h
  · exact absurd h1 hp
  · exact ⟨_, _, rfl, hb⟩
theorem Says.of_true {w : World} {p : Prop} {e : Ending} {w' : World} (h : Says w p e w') (hp : p) : e = .returned (.bool true) ∧ ∃ m, w' = w.drewN m := by
  obtain ⟨b, m, rfl, rfl, hb⟩ := h
  obtain rfl : b = true := hb.2 hp
  exact ⟨rfl, m, rfl⟩
theorem Says.of_false {w : World} {p : Prop} {e : Ending} {w' : World} (h : Says w p e w') (hp : ¬ p) : e = .returned (.bool false) ∧ ∃ m, w' = w.drewN m := by
  obtain ⟨b, m, rfl, rfl, hb⟩ := h
  obtain rfl : b = false := by
    cases b
    · rfl
    · exact absurd (hb.1 rfl) hp
  exact ⟨rfl, m, rfl⟩

theorem Steps.upto {w : World} {b o n k : Nat} {D : Nat → Int} {F : Nat → Nat} (h : Steps w b o n D F) (hk : k ≤ n) : Steps w b o k D F := ⟨h.lt, fun j hj => h.day j (by omega), fun j hj => h.share j (by omega)⟩
theorem Steps.window {w : World} {b o n k : Nat} {D : Nat → Int} {F : Nat → Nat} (h : Steps w b o n D F) (lo : Nat) (hk : lo + k ≤ n) : Steps w b (o + lo * 2) k (fun j => D (lo + j)) (fun j => F (lo + j)) :=
  ⟨h.lt, fun j hj => by rw [show o + lo * 2 + j * 2 = o + (lo + j) * 2 by omega]; exact h.day _ (by omega), fun j hj => by rw [show o + lo * 2 + j * 2 + 1 = o + (lo + j) * 2 + 1 by omega]; exact h.share _ (by omega)⟩

set_option maxHeartbeats 1000000 in
theorem fn6_long (w : World) (ao : Option Addr) (n cp : Nat) (k : Int) (h : 4096 < n) (hm : n ≤ 9223372036854775807) :
    Calls Tryf.prog 6 #[.slice ao n cp, .int .i64 k] w fun e w' => e = .returned (.bool true) ∧ Below w.heap.size w w' := by
  by_cases h2 : 1048576 < n
  · go_enter Tryf.func6, Tryf.ntmps6
    go_wp2
    go_ret
    exact ⟨rfl, Below.refl _ _⟩
  · go_enter Tryf.func6, Tryf.ntmps6
    go_wp2
    go_ret
    exact ⟨rfl, Below.refl _ _⟩

set_option maxHeartbeats 1000000 in
theorem fn6_out (w : World) (ao : Option Addr) (n cp : Nat) (k : Int) (h : n ≤ 4096) (hk : k < 0 ∨ (n : Int) ≤ k) :
    Calls Tryf.prog 6 #[.slice ao n cp, .int .i64 k] w fun e w' => e = .returned (.bool true) ∧ Below w.heap.size w w' := by
  rcases hk with hk | hk
  · go_enter Tryf.func6, Tryf.ntmps6
    go_wp2
    go_ret
    exact ⟨rfl, Below.refl _ _⟩
  · have hk2 : ¬ k < 0 := by omega
    go_enter Tryf.func6, Tryf.ntmps6
    go_wp2
    go_ret
    exact ⟨rfl, Below.refl _ _⟩

set_option maxRecDepth 100000 in
set_option maxHeartbeats 2000000 in
theorem fn6_0t (I : Interp) (w : World) (hF : I.answers w.tape) (b o n cp : Nat) (D : Nat → Int) (F : Nat → Nat) (h : Steps w b o n D F) (hn : n ≤ 4096) (hk : 0 < n) (hg : Hid (stepB D F 0 = true)) :
    Calls Tryf.prog 6 #[.slice (some ⟨b, o, none⟩) n cp, .int .i64 0] w fun e w' => e = .returned (.bool true) ∧ Below w.heap.size w w' := by
  go_enter Tryf.func6, Tryf.ntmps6
  go_wp2_with (first | (go_at_call 19; go_in))
  refine Calls.mono (clone_any w b o n cp D F h (by omega)) ?_
  rintro e w1 ⟨rfl, B1, sa1⟩
  go_wp2_with fail
  refine Calls.mono (sched_any w1 w.heap.size 0 n n D F sa1 (by omega)) ?_
  rintro e w2 ⟨rfl, b2, st2⟩
  have B2 := B1.trans (b2.mono B1.size)
  have sa2 := sa1.below b2
  have F2 : I.answers w2.tape := by rw [B2.tape]; exact hF
  clear sa1 b2 h
  go_wp2_with fail
  refine Calls.mono (step_any I w2 F2 w1.heap.size 0 n n 0 D F st2 hk (by omega)) ?_
  intro e w3 he
  obtain ⟨rfl, b3⟩ := he.of_true hg.out
  have B3 := B2.trans (b3.mono B2.size)
  have st3 := st2.below b3
  have sa3 := sa2.below b3
  have F3 : I.answers w3.tape := by rw [B3.tape]; exact hF
  clear he b3 st2 sa2 F2
  go_wp2_with fail
  refine Calls.mono (step_any I w3 F3 w1.heap.size 0 1 n 0 D F (st3.upto (by omega)) (by omega) (by omega)) ?_
  intro e w4 he
  obtain ⟨rfl, b4⟩ := he.of_true hg.out
  have B4 := B3.trans (b4.mono B3.size)
  have st4 := st3.below b4
  have sa4 := sa3.below b4
  have F4 : I.answers w4.tape := by rw [B4.tape]; exact hF
  clear he b4 st3 sa3 F3
  clear B3
  go_wp2_with fail
  refine Calls.mono (step_any I w4 F4 w1.heap.size 0 1 n 0 D F (st4.upto (by omega)) (by omega) (by omega)) ?_
  intro e w5 he
  obtain ⟨rfl, b5⟩ := he.of_true hg.out
  have B5 := B4.trans (b5.mono B4.size)
  have st5 := st4.below b5
  have sa5 := sa4.below b5
  have F5 : I.answers w5.tape := by rw [B5.tape]; exact hF
  clear he b5 st4 sa4 F4
  clear B4
  go_wp2_with fail
  refine Calls.mono (valid_any w5 w.heap.size 0 1 n D F (sa5.upto (by omega)) (by omega) (by omega)) ?_
  intro e w6 he
  obtain ⟨rfl, m6, hw6⟩ := he.of_true ((valid_one D F).2 hg.out)
  have b6 : Below w5.heap.size w5 w6 := by rw [hw6]; exact below_draws (Below.refl _ _) _
  have B6 := B5.trans (b6.mono B5.size)
  have st6 := st5.below b6
  have sa6 := sa5.below b6
  have F6 : I.answers w6.tape := by rw [B6.tape]; exact hF
  clear he hw6 b6 st5 sa5 F5 B5
  go_wp2_with fail
  refine Calls.mono (check_any I w6 F6 w1.heap.size 0 1 n D F (st6.upto (by omega)) (by omega) (by omega)) ?_
  intro e w7 he
  obtain ⟨rfl, b7⟩ := he.of_true ((valid_one D F).2 hg.out)
  have B7 := B6.trans (b7.mono B6.size)
  clear he b7 st6 sa6 F6 B6
  go_wp2_with fail
  go_ret
  exact ⟨rfl, B7⟩

set_option maxRecDepth 100000 in
set_option maxHeartbeats 2000000 in
theorem fn6_0f (I : Interp) (w : World) (hF : I.answers w.tape) (b o n cp : Nat) (D : Nat → Int) (F : Nat → Nat) (h : Steps w b o n D F) (hn : n ≤ 4096) (hk : 0 < n) (hg : Hid (stepB D F 0 = false)) :
    Calls Tryf.prog 6 #[.slice (some ⟨b, o, none⟩) n cp, .int .i64 0] w fun e w' => e = .returned (.bool true) ∧ Below w.heap.size w w' := by
  go_enter Tryf.func6, Tryf.ntmps6
  go_wp2_with (first | (go_at_call 19; go_in))
  refine Calls.mono (clone_any w b o n cp D F h (by omega)) ?_
  rintro e w1 ⟨rfl, B1, sa1⟩
  go_wp2_with fail
  refine Calls.mono (sched_any w1 w.heap.size 0 n n D F sa1 (by omega)) ?_
  rintro e w2 ⟨rfl, b2, st2⟩
  have B2 := B1.trans (b2.mono B1.size)
  have sa2 := sa1.below b2
  have F2 : I.answers w2.tape := by rw [B2.tape]; exact hF
  clear sa1 b2 h
  go_wp2_with fail
  refine Calls.mono (step_any I w2 F2 w1.heap.size 0 n n 0 D F st2 hk (by omega)) ?_
  intro e w3 he
  obtain ⟨u3, x3, rfl, b3⟩ := he.of_false hg.out
  have B3 := B2.trans (b3.mono B2.size)
  have st3 := st2.below b3
  have sa3 := sa2.below b3
  have F3 : I.answers w3.tape := by rw [B3.tape]; exact hF
  clear he b3 st2 sa2 F2
  go_wp2_with fail
  refine Calls.mono (step_any I w3 F3 w1.heap.size 0 1 n 0 D F (st3.upto (by omega)) (by omega) (by omega)) ?_
  intro e w4 he
  obtain ⟨u4, x4, rfl, b4⟩ := he.of_false hg.out
  have B4 := B3.trans (b4.mono B3.size)
  have st4 := st3.below b4
  have sa4 := sa3.below b4
  have F4 : I.answers w4.tape := by rw [B4.tape]; exact hF
  clear he b4 st3 sa3 F3
  clear B3
  go_wp2_with fail
  refine Calls.mono (step_any I w4 F4 w1.heap.size 0 1 n 0 D F (st4.upto (by omega)) (by omega) (by omega)) ?_
  intro e w5 he
  obtain ⟨u5, x5, rfl, b5⟩ := he.of_false hg.out
  have B5 := B4.trans (b5.mono B4.size)
  have st5 := st4.below b5
  have sa5 := sa4.below b5
  have F5 : I.answers w5.tape := by rw [B5.tape]; exact hF
  clear he b5 st4 sa4 F4
  clear B4
  go_wp2_with fail
  refine Calls.mono (valid_any w5 w.heap.size 0 1 n D F (sa5.upto (by omega)) (by omega) (by omega)) ?_
  intro e w6 he
  obtain ⟨rfl, m6, hw6⟩ := he.of_false (fun hx => absurd ((valid_one D F).1 hx) (by rw [hg.out]; decide))
  have b6 : Below w5.heap.size w5 w6 := by rw [hw6]; exact below_draws (Below.refl _ _) _
  have B6 := B5.trans (b6.mono B5.size)
  have st6 := st5.below b6
  have sa6 := sa5.below b6
  have F6 : I.answers w6.tape := by rw [B6.tape]; exact hF
  clear he hw6 b6 st5 sa5 F5 B5
  go_wp2_with fail
  refine Calls.mono (check_any I w6 F6 w1.heap.size 0 1 n D F (st6.upto (by omega)) (by omega) (by omega)) ?_
  intro e w7 he
  obtain ⟨u7, x7, rfl, b7⟩ := he.of_false (fun hx => absurd ((valid_one D F).1 hx) (by rw [hg.out]; decide))
  have B7 := B6.trans (b7.mono B6.size)
  clear he b7 st6 sa6 F6 B6
  go_wp2_with fail
  go_ret
  exact ⟨rfl, B7⟩

set_option maxRecDepth 100000 in
set_option maxHeartbeats 2000000 in
theorem fn6_vt (I : Interp) (w : World) (hF : I.answers w.tape) (b o n cp k : Nat) (D : Nat → Int) (F : Nat → Nat) (h : Steps w b o n D F) (hn : n ≤ 4096) (hk : k < n) (hk0 : 0 < k) (hg : Hid (stepB D F k = true)) (hv : Hid (Valid D F k)) :
    Calls Tryf.prog 6 #[.slice (some ⟨b, o, none⟩) n cp, .int .i64 (k : Int)] w fun e w' => e = .returned (.bool true) ∧ Below w.heap.size w w' := by
  have hz : ((k : Int) == 0) = false := by simp; omega
  go_enter Tryf.func6, Tryf.ntmps6
  go_wp2_with (first | (go_at_call 19; go_in))
  refine Calls.mono (clone_any w b o n cp D F h (by omega)) ?_
  rintro e w1 ⟨rfl, B1, sa1⟩
  go_wp2_with fail
  refine Calls.mono (sched_any w1 w.heap.size 0 n n D F sa1 (by omega)) ?_
  rintro e w2 ⟨rfl, b2, st2⟩
  have B2 := B1.trans (b2.mono B1.size)
  have sa2 := sa1.below b2
  have F2 : I.answers w2.tape := by rw [B2.tape]; exact hF
  clear sa1 b2 h
  go_wp2_with fail
  refine Calls.mono (step_any I w2 F2 w1.heap.size 0 n n k D F st2 hk (by omega)) ?_
  intro e w3 he
  obtain ⟨rfl, b3⟩ := he.of_true hg.out
  have B3 := B2.trans (b3.mono B2.size)
  have st3 := st2.below b3
  have sa3 := sa2.below b3
  have F3 : I.answers w3.tape := by rw [B3.tape]; exact hF
  clear he b3 st2 sa2 F2
  go_wp2_with fail
  refine Calls.mono (step_any I w3 F3 w1.heap.size 0 (k + 1) n k D F (st3.upto (by omega)) (by omega) (by omega)) ?_
  intro e w4 he
  obtain ⟨rfl, b4⟩ := he.of_true hg.out
  have B4 := B3.trans (b4.mono B3.size)
  have st4 := st3.below b4
  have sa4 := sa3.below b4
  have F4 : I.answers w4.tape := by rw [B4.tape]; exact hF
  clear he b4 st3 sa3 F3
  clear B3
  go_wp2_with fail
  have sw : Steps w4 w1.heap.size ((k - 1) * 2) 2 (fun j => D (k - 1 + j)) (fun j => F (k - 1 + j)) := by
    have := st4.window (k := 2) (k - 1) (by omega)
    rwa [Nat.zero_add] at this
  rw [show k + 1 - (k - 1) = 2 by omega, show (k : Int) - ((k : Int) - 1) = ((1 : Nat) : Int) by omega]
  refine Calls.mono (step_any I w4 F4 w1.heap.size ((k - 1) * 2) 2 (n - (k - 1)) 1 (fun j => D (k - 1 + j)) (fun j => F (k - 1 + j)) sw (by omega) (by omega)) ?_
  intro e w5 he
  obtain ⟨rfl, b5⟩ := he.of_true ((stepB_window hk0).trans hg.out)
  have B5 := B4.trans (b5.mono B4.size)
  have st5 := st4.below b5
  have sa5 := sa4.below b5
  have F5 : I.answers w5.tape := by rw [B5.tape]; exact hF
  clear he b5 st4 sa4 F4
  clear B4
  go_wp2_with fail
  refine Calls.mono (valid_any w5 w.heap.size 0 k n D F (sa5.upto (by omega)) (by omega) (by omega)) ?_
  intro e w6 he
  obtain ⟨rfl, m6, hw6⟩ := he.of_true hv.out
  have b6 : Below w5.heap.size w5 w6 := by rw [hw6]; exact below_draws (Below.refl _ _) _
  have B6 := B5.trans (b6.mono B5.size)
  have st6 := st5.below b6
  have sa6 := sa5.below b6
  have F6 : I.answers w6.tape := by rw [B6.tape]; exact hF
  clear he hw6 b6 st5 sa5 F5 B5
  go_wp2_with fail
  refine Calls.mono (valid_any w6 w.heap.size 0 (k + 1) n D F (sa6.upto (by omega)) (by omega) (by omega)) ?_
  intro e w7 he
  obtain ⟨rfl, m7, hw7⟩ := he.of_true ((valid_next hk0).2 ⟨hv.out, hg.out⟩)
  have b7 : Below w6.heap.size w6 w7 := by rw [hw7]; exact below_draws (Below.refl _ _) _
  have B7 := B6.trans (b7.mono B6.size)
  have st7 := st6.below b7
  have sa7 := sa6.below b7
  have F7 : I.answers w7.tape := by rw [B7.tape]; exact hF
  clear he hw7 b7 st6 sa6 F6 B6
  go_wp2_with fail
  refine Calls.mono (check_any I w7 F7 w1.heap.size 0 (k + 1) n D F (st7.upto (by omega)) (by omega) (by omega)) ?_
  intro e w8 he
  obtain ⟨rfl, b8⟩ := he.of_true ((valid_next hk0).2 ⟨hv.out, hg.out⟩)
  have B8 := B7.trans (b8.mono B7.size)
  clear he b8 st7 sa7 F7 B7
  go_wp2_with fail
  go_ret
  exact ⟨rfl, B8⟩

set_option maxRecDepth 100000 in
set_option maxHeartbeats 2000000 in
theorem fn6_vf (I : Interp) (w : World) (hF : I.answers w.tape) (b o n cp k : Nat) (D : Nat → Int) (F : Nat → Nat) (h : Steps w b o n D F) (hn : n ≤ 4096) (hk : k < n) (hk0 : 0 < k) (hg : Hid (stepB D F k = false)) (hv : Hid (Valid D F k)) :
    Calls Tryf.prog 6 #[.slice (some ⟨b, o, none⟩) n cp, .int .i64 (k : Int)] w fun e w' => e = .returned (.bool true) ∧ Below w.heap.size w w' := by
  have hz : ((k : Int) == 0) = false := by simp; omega
  go_enter Tryf.func6, Tryf.ntmps6
  go_wp2_with (first | (go_at_call 19; go_in))
  refine Calls.mono (clone_any w b o n cp D F h (by omega)) ?_
  rintro e w1 ⟨rfl, B1, sa1⟩
  go_wp2_with fail
  refine Calls.mono (sched_any w1 w.heap.size 0 n n D F sa1 (by omega)) ?_
  rintro e w2 ⟨rfl, b2, st2⟩
  have B2 := B1.trans (b2.mono B1.size)
  have sa2 := sa1.below b2
  have F2 : I.answers w2.tape := by rw [B2.tape]; exact hF
  clear sa1 b2 h
  go_wp2_with fail
  refine Calls.mono (step_any I w2 F2 w1.heap.size 0 n n k D F st2 hk (by omega)) ?_
  intro e w3 he
  obtain ⟨u3, x3, rfl, b3⟩ := he.of_false hg.out
  have B3 := B2.trans (b3.mono B2.size)
  have st3 := st2.below b3
  have sa3 := sa2.below b3
  have F3 : I.answers w3.tape := by rw [B3.tape]; exact hF
  clear he b3 st2 sa2 F2
  go_wp2_with fail
  refine Calls.mono (step_any I w3 F3 w1.heap.size 0 (k + 1) n k D F (st3.upto (by omega)) (by omega) (by omega)) ?_
  intro e w4 he
  obtain ⟨u4, x4, rfl, b4⟩ := he.of_false hg.out
  have B4 := B3.trans (b4.mono B3.size)
  have st4 := st3.below b4
  have sa4 := sa3.below b4
  have F4 : I.answers w4.tape := by rw [B4.tape]; exact hF
  clear he b4 st3 sa3 F3
  clear B3
  go_wp2_with fail
  have sw : Steps w4 w1.heap.size ((k - 1) * 2) 2 (fun j => D (k - 1 + j)) (fun j => F (k - 1 + j)) := by
    have := st4.window (k := 2) (k - 1) (by omega)
    rwa [Nat.zero_add] at this
  rw [show k + 1 - (k - 1) = 2 by omega, show (k : Int) - ((k : Int) - 1) = ((1 : Nat) : Int) by omega]
  refine Calls.mono (step_any I w4 F4 w1.heap.size ((k - 1) * 2) 2 (n - (k - 1)) 1 (fun j => D (k - 1 + j)) (fun j => F (k - 1 + j)) sw (by omega) (by omega)) ?_
  intro e w5 he
  obtain ⟨u5, x5, rfl, b5⟩ := he.of_false ((stepB_window hk0).trans hg.out)
  have B5 := B4.trans (b5.mono B4.size)
  have st5 := st4.below b5
  have sa5 := sa4.below b5
  have F5 : I.answers w5.tape := by rw [B5.tape]; exact hF
  clear he b5 st4 sa4 F4
  clear B4
  go_wp2_with fail
  refine Calls.mono (valid_any w5 w.heap.size 0 k n D F (sa5.upto (by omega)) (by omega) (by omega)) ?_
  intro e w6 he
  obtain ⟨rfl, m6, hw6⟩ := he.of_true hv.out
  have b6 : Below w5.heap.size w5 w6 := by rw [hw6]; exact below_draws (Below.refl _ _) _
  have B6 := B5.trans (b6.mono B5.size)
  have st6 := st5.below b6
  have sa6 := sa5.below b6
  have F6 : I.answers w6.tape := by rw [B6.tape]; exact hF
  clear he hw6 b6 st5 sa5 F5 B5
  go_wp2_with fail
  refine Calls.mono (valid_any w6 w.heap.size 0 (k + 1) n D F (sa6.upto (by omega)) (by omega) (by omega)) ?_
  intro e w7 he
  obtain ⟨rfl, m7, hw7⟩ := he.of_false (fun hx => absurd ((valid_next hk0).1 hx).2 (by rw [hg.out]; decide))
  have b7 : Below w6.heap.size w6 w7 := by rw [hw7]; exact below_draws (Below.refl _ _) _
  have B7 := B6.trans (b7.mono B6.size)
  have st7 := st6.below b7
  have sa7 := sa6.below b7
  have F7 : I.answers w7.tape := by rw [B7.tape]; exact hF
  clear he hw7 b7 st6 sa6 F6 B6
  go_wp2_with fail
  refine Calls.mono (check_any I w7 F7 w1.heap.size 0 (k + 1) n D F (st7.upto (by omega)) (by omega) (by omega)) ?_
  intro e w8 he
  obtain ⟨u8, x8, rfl, b8⟩ := he.of_false (fun hx => absurd ((valid_next hk0).1 hx).2 (by rw [hg.out]; decide))
  have B8 := B7.trans (b8.mono B7.size)
  clear he b8 st7 sa7 F7 B7
  go_wp2_with fail
  go_ret
  exact ⟨rfl, B8⟩

set_option maxRecDepth 100000 in
set_option maxHeartbeats 2000000 in
theorem fn6_it (I : Interp) (w : World) (hF : I.answers w.tape) (b o n cp k : Nat) (D : Nat → Int) (F : Nat → Nat) (h : Steps w b o n D F) (hn : n ≤ 4096) (hk : k < n) (hk0 : 0 < k) (hg : Hid (stepB D F k = true)) (hv : Hid (¬ Valid D F k)) :
    Calls Tryf.prog 6 #[.slice (some ⟨b, o, none⟩) n cp, .int .i64 (k : Int)] w fun e w' => e = .returned (.bool true) ∧ Below w.heap.size w w' := by
  have hz : ((k : Int) == 0) = false := by simp; omega
  go_enter Tryf.func6, Tryf.ntmps6
  go_wp2_with (first | (go_at_call 19; go_in))
  refine Calls.mono (clone_any w b o n cp D F h (by omega)) ?_
  rintro e w1 ⟨rfl, B1, sa1⟩
  go_wp2_with fail
  refine Calls.mono (sched_any w1 w.heap.size 0 n n D F sa1 (by omega)) ?_
  rintro e w2 ⟨rfl, b2, st2⟩
  have B2 := B1.trans (b2.mono B1.size)
  have sa2 := sa1.below b2
  have F2 : I.answers w2.tape := by rw [B2.tape]; exact hF
  clear sa1 b2 h
  go_wp2_with fail
  refine Calls.mono (step_any I w2 F2 w1.heap.size 0 n n k D F st2 hk (by omega)) ?_
  intro e w3 he
  obtain ⟨rfl, b3⟩ := he.of_true hg.out
  have B3 := B2.trans (b3.mono B2.size)
  have st3 := st2.below b3
  have sa3 := sa2.below b3
  have F3 : I.answers w3.tape := by rw [B3.tape]; exact hF
  clear he b3 st2 sa2 F2
  go_wp2_with fail
  refine Calls.mono (step_any I w3 F3 w1.heap.size 0 (k + 1) n k D F (st3.upto (by omega)) (by omega) (by omega)) ?_
  intro e w4 he
  obtain ⟨rfl, b4⟩ := he.of_true hg.out
  have B4 := B3.trans (b4.mono B3.size)
  have st4 := st3.below b4
  have sa4 := sa3.below b4
  have F4 : I.answers w4.tape := by rw [B4.tape]; exact hF
  clear he b4 st3 sa3 F3
  clear B3
  go_wp2_with fail
  have sw : Steps w4 w1.heap.size ((k - 1) * 2) 2 (fun j => D (k - 1 + j)) (fun j => F (k - 1 + j)) := by
    have := st4.window (k := 2) (k - 1) (by omega)
    rwa [Nat.zero_add] at this
  rw [show k + 1 - (k - 1) = 2 by omega, show (k : Int) - ((k : Int) - 1) = ((1 : Nat) : Int) by omega]
  refine Calls.mono (step_any I w4 F4 w1.heap.size ((k - 1) * 2) 2 (n - (k - 1)) 1 (fun j => D (k - 1 + j)) (fun j => F (k - 1 + j)) sw (by omega) (by omega)) ?_
  intro e w5 he
  obtain ⟨rfl, b5⟩ := he.of_true ((stepB_window hk0).trans hg.out)
  have B5 := B4.trans (b5.mono B4.size)
  have st5 := st4.below b5
  have sa5 := sa4.below b5
  have F5 : I.answers w5.tape := by rw [B5.tape]; exact hF
  clear he b5 st4 sa4 F4
  clear B4
  go_wp2_with fail
  refine Calls.mono (valid_any w5 w.heap.size 0 k n D F (sa5.upto (by omega)) (by omega) (by omega)) ?_
  intro e w6 he
  obtain ⟨rfl, m6, hw6⟩ := he.of_false hv.out
  have b6 : Below w5.heap.size w5 w6 := by rw [hw6]; exact below_draws (Below.refl _ _) _
  have B6 := B5.trans (b6.mono B5.size)
  have st6 := st5.below b6
  have sa6 := sa5.below b6
  have F6 : I.answers w6.tape := by rw [B6.tape]; exact hF
  clear he hw6 b6 st5 sa5 F5 B5
  go_wp2_with fail
  go_ret
  exact ⟨rfl, B6⟩

set_option maxRecDepth 100000 in
set_option maxHeartbeats 2000000 in
theorem fn6_if (I : Interp) (w : World) (hF : I.answers w.tape) (b o n cp k : Nat) (D : Nat → Int) (F : Nat → Nat) (h : Steps w b o n D F) (hn : n ≤ 4096) (hk : k < n) (hk0 : 0 < k) (hg : Hid (stepB D F k = false)) (hv : Hid (¬ Valid D F k)) :
    Calls Tryf.prog 6 #[.slice (some ⟨b, o, none⟩) n cp, .int .i64 (k : Int)] w fun e w' => e = .returned (.bool true) ∧ Below w.heap.size w w' := by
  have hz : ((k : Int) == 0) = false := by simp; omega
  go_enter Tryf.func6, Tryf.ntmps6
  go_wp2_with (first | (go_at_call 19; go_in))
  refine Calls.mono (clone_any w b o n cp D F h (by omega)) ?_
  rintro e w1 ⟨rfl, B1, sa1⟩
  go_wp2_with fail
  refine Calls.mono (sched_any w1 w.heap.size 0 n n D F sa1 (by omega)) ?_
  rintro e w2 ⟨rfl, b2, st2⟩
  have B2 := B1.trans (b2.mono B1.size)
  have sa2 := sa1.below b2
  have F2 : I.answers w2.tape := by rw [B2.tape]; exact hF
  clear sa1 b2 h
  go_wp2_with fail
  refine Calls.mono (step_any I w2 F2 w1.heap.size 0 n n k D F st2 hk (by omega)) ?_
  intro e w3 he
  obtain ⟨u3, x3, rfl, b3⟩ := he.of_false hg.out
  have B3 := B2.trans (b3.mono B2.size)
  have st3 := st2.below b3
  have sa3 := sa2.below b3
  have F3 : I.answers w3.tape := by rw [B3.tape]; exact hF
  clear he b3 st2 sa2 F2
  go_wp2_with fail
  refine Calls.mono (step_any I w3 F3 w1.heap.size 0 (k + 1) n k D F (st3.upto (by omega)) (by omega) (by omega)) ?_
  intro e w4 he
  obtain ⟨u4, x4, rfl, b4⟩ := he.of_false hg.out
  have B4 := B3.trans (b4.mono B3.size)
  have st4 := st3.below b4
  have sa4 := sa3.below b4
  have F4 : I.answers w4.tape := by rw [B4.tape]; exact hF
  clear he b4 st3 sa3 F3
  clear B3
  go_wp2_with fail
  have sw : Steps w4 w1.heap.size ((k - 1) * 2) 2 (fun j => D (k - 1 + j)) (fun j => F (k - 1 + j)) := by
    have := st4.window (k := 2) (k - 1) (by omega)
    rwa [Nat.zero_add] at this
  rw [show k + 1 - (k - 1) = 2 by omega, show (k : Int) - ((k : Int) - 1) = ((1 : Nat) : Int) by omega]
  refine Calls.mono (step_any I w4 F4 w1.heap.size ((k - 1) * 2) 2 (n - (k - 1)) 1 (fun j => D (k - 1 + j)) (fun j => F (k - 1 + j)) sw (by omega) (by omega)) ?_
  intro e w5 he
  obtain ⟨u5, x5, rfl, b5⟩ := he.of_false ((stepB_window hk0).trans hg.out)
  have B5 := B4.trans (b5.mono B4.size)
  have st5 := st4.below b5
  have sa5 := sa4.below b5
  have F5 : I.answers w5.tape := by rw [B5.tape]; exact hF
  clear he b5 st4 sa4 F4
  clear B4
  go_wp2_with fail
  refine Calls.mono (valid_any w5 w.heap.size 0 k n D F (sa5.upto (by omega)) (by omega) (by omega)) ?_
  intro e w6 he
  obtain ⟨rfl, m6, hw6⟩ := he.of_false hv.out
  have b6 : Below w5.heap.size w5 w6 := by rw [hw6]; exact below_draws (Below.refl _ _) _
  have B6 := B5.trans (b6.mono B5.size)
  have st6 := st5.below b6
  have sa6 := sa5.below b6
  have F6 : I.answers w6.tape := by rw [B6.tape]; exact hF
  clear he hw6 b6 st5 sa5 F5 B5
  go_wp2_with fail
  go_ret
  exact ⟨rfl, B6⟩

end Go.Proofs.Qxb6619576aFmt
