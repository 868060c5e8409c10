/-
  Statement 3: function 16, stepsValid.
-/
import Derived.Test.Qxb6619576aFmtSkStep
namespace Go.Proofs.Qxb6619576aFmt
open Go.RowKit Go.Extern.Stop Go.Stop Go.Extern Go.Deep

/-- A bool that says whether p. -/
def Says (w : World) (p : Prop) (e : Ending) (w' : World) : Prop := ∃ b m, e = .returned (.bool b) ∧ w' = w.drewN m ∧ (b = true ↔ p)
theorem Says.no {w : World} {p : Prop} (h : ¬ p) (m : Nat) : Says w p (.returned (.bool false)) (w.drewN m) := ⟨false, m, rfl, rfl, (fun e => (by cases e)), fun hp => absurd hp h⟩
theorem Says.yes {w : World} {p : Prop} (h : p) (m : Nat) : Says w p (.returned (.bool true)) (w.drewN m) := ⟨true, m, rfl, rfl, fun _ => h, fun _ => rfl⟩

/-- The first j steps are in order. -/
structure Good (D : Nat → Int) (F : Nat → Nat) (j : Nat) : Prop where
  all : ∀ k, k < j → shareB (F k) = true ∧ ∀ i, i < k → D i < D k
structure Lower (D : Nat → Int) (j i : Nat) : Prop where
  all : ∀ k, k < i → D k < D j

set_option maxRecDepth 100000 in
set_option maxHeartbeats 1000000 in
theorem valid_any (w : World) (b o n cp : Nat) (D : Nat → Int) (F : Nat → Nat) (h : Steps w b o n D F) (hn : 0 < n) (hn2 : n ≤ 1048576) :
    Calls Tryf.prog 16 #[.slice (some ⟨b, o, none⟩) n cp] w (Says w (Valid D F n)) := by
  have hz : ((n : Int) == 0) = false := by simp; omega
  have c0 := h.day 0 hn
  simp only [Nat.zero_mul, Nat.add_zero] at c0
  by_cases hd : D 0 = 1
  · have c0' : w.cell? ⟨b, o, none⟩ = some (.int .i64 1) := by rw [← hd]; exact c0
    have HD : Hid (D 0 = 1) := hd
    clear c0 hd
    go_enter Tryf.func16, Tryf.ntmps16
    go_wp2_with fail
    go_loopg [3] n (fun g i wr => ∃ j m : Nat, j ≤ n ∧ g = n - j ∧ i = .int .i64 j ∧ wr = w.drewN m ∧ Good D F j)
    case atStart => exact ⟨0, 0, Nat.zero_le _, rfl, rfl, rfl, ⟨fun k hk => absurd hk (Nat.not_lt_zero k)⟩⟩
    case round =>
      obtain ⟨j, m, hj, rfl, rfl, rfl, hg⟩ := hrel
      by_cases hlt : j < n
      · have c1 := h.share j hlt
        have c2 := h.day j hlt
        cases hs : shareB (F j)
        · have hno : Hid (¬ Valid D F n) := fun hv => by
            have := (hv.2 j hlt).1
            rw [hs] at this
            cases this
          go_wp2_with fail
          refine Calls.mono (unit_any _ (F j)) ?_
          rintro e w1 ⟨rfl, rfl⟩
          rw [hs]
          go_wp2_with fail
          go_ret
          exact Says.no hno.out m
        · have HS : Hid (shareB (F j) = true) := hs
          go_wp2_with fail
          refine Calls.mono (unit_any _ (F j)) ?_
          rintro e w1 ⟨rfl, rfl⟩
          rw [hs]
          clear hs
          go_wp2_with fail
          go_loopg [4] j (fun g t wr => ∃ i m : Nat, i ≤ j ∧ g = j - i ∧ t = .int .i64 i ∧ wr = w.drewN m ∧ Lower D j i)
          case atStart => exact ⟨0, m, Nat.zero_le _, rfl, rfl, rfl, ⟨fun k hk => absurd hk (Nat.not_lt_zero k)⟩⟩
          case round =>
            obtain ⟨i, m, hi, rfl, rfl, rfl, hl⟩ := hrel
            by_cases hlt2 : i < j
            · have c3 := h.day i (by omega)
              obtain ⟨dj, hdj⟩ : ∃ dj, dj = D j := ⟨_, rfl⟩
              obtain ⟨di, hdi⟩ : ∃ di, di = D i := ⟨_, rfl⟩
              rw [← hdj] at c2
              rw [← hdi] at c3
              have H1 : Hid (dj = D j ∧ di = D i) := ⟨hdj, hdi⟩
              clear hdj hdi
              go_wp2_with fail
              go_quiet (fail)
              by_cases hle : dj ≤ di
              · have hno : Hid (¬ Valid D F n) := fun hv => by
                  have := (hv.2 j hlt).2 i hlt2
                  rw [← H1.out.1, ← H1.out.2] at this
                  omega
                go_wp2_with fail
                go_ret
                rw [World.drewN_drewN]
                exact Says.no hno.out _
              · have hl' : Lower D j (i + 1) := ⟨fun k hk => by
                  by_cases e : k = i
                  · subst e
                    have := H1.out
                    omega
                  · exact hl.all k (by omega)⟩
                go_wp2_with fail
                go_roundg (j - (i + 1))
                case measure => omega
                case rel => exact ⟨i + 1, _, by omega, rfl, by go_num, rfl, hl'⟩
            · obtain rfl : j = i := by omega
              have hg' : Good D F (j + 1) := ⟨fun k hk => by
                by_cases e : k = j
                · subst e; exact ⟨HS.out, hl.all⟩
                · exact hg.all k (by omega)⟩
              go_wp2_with fail
              go_roundg (n - (j + 1))
              case measure => omega
              case rel => exact ⟨j + 1, _, by omega, rfl, by go_num, rfl, hg'⟩
      · obtain rfl : n = j := by omega
        go_wp2_with fail
        go_ret
        exact Says.yes ⟨HD.out, hg.all⟩ m
  · have hd' : (D 0 != 1) = true := by simpa using hd
    have hno : Hid (¬ Valid D F n) := fun hv => hd hv.1
    go_enter Tryf.func16, Tryf.ntmps16
    go_wp2_with fail
    go_ret
    exact Says.no hno.out 0

end Go.Proofs.Qxb6619576aFmt
