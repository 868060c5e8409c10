/-
  Statement 1: functions 9, 11, 13: sameStrings, sameInts, sameBytes at equal contents.
-/
import Derived.Test.Qxb6618050aSpBase
import Derived.Deep.QuietTactic
import Derived.BigQuiet
namespace Go.Proofs.Qxb6618050a
open Go.RowKit Go.Deep

/-- The n elements behind 'ao' are 'f 0', 'f 1', .. -/
def Elts (w : World) (ao : Option Addr) (n : Nat) (f : Nat → Value) : Prop := ∀ k, k < n → ∃ b o, ao = some ⟨b, o, none⟩ ∧ w.cell? ⟨b, o + k, none⟩ = some (f k)

set_option maxRecDepth 100000 in
set_option maxHeartbeats 1000000 in
theorem sameStrings_eq (w : World) (ao bo : Option Addr) (n ca cb : Nat) (S : Nat → ByteArray) (hn : n ≤ 4611686018427387904) (ha : Elts w ao n (fun k => .string (S k))) (hb : Elts w bo n (fun k => .string (S k))) :
    Calls Try.prog 9 #[.slice ao n ca, .slice bo n cb] w fun e w' => e = .returned (.bool true) ∧ ∃ m, w' = w.drewN m := by
  go_enter Try.func9, Try.ntmps9
  go_wp2_with fail
  go_loopg [5] n (fun g i wr => ∃ k m : Nat, k ≤ n ∧ g = n - k ∧ i = .int .i64 k ∧ wr = w.drewN m)
  case atStart => exact ⟨0, 0, Nat.zero_le _, rfl, rfl, rfl⟩
  case round =>
    obtain ⟨k, m, hk, rfl, rfl, rfl⟩ := hrel
    by_cases hlt : k < n
    · obtain ⟨b1, o1, rfl, hc1⟩ := ha k hlt
      obtain ⟨b2, o2, rfl, hc2⟩ := hb k hlt
      obtain ⟨str, hstr⟩ : ∃ str, str = S k := ⟨_, rfl⟩
      have g1 : w.cell? ⟨b1, o1 + k, none⟩ = some (.string str) := by rw [hstr]; exact hc1
      have g2 : w.cell? ⟨b2, o2 + k, none⟩ = some (.string str) := by rw [hstr]; exact hc2
      clear hstr hc1 hc2
      go_wp2_with fail
      go_quiet (fail)
      go_wp2_with fail
      go_roundg (n - (k + 1))
      case measure => omega
      case rel => exact ⟨k + 1, _, by omega, rfl, by go_num, rfl⟩
    · go_wp2_with fail
      go_ret
      exact ⟨rfl, m, rfl⟩

set_option maxRecDepth 100000 in
set_option maxHeartbeats 1000000 in
theorem sameInts_eq (w : World) (ao bo : Option Addr) (n ca cb : Nat) (S : Nat → Int) (hn : n ≤ 4611686018427387904) (ha : Elts w ao n (fun k => .int .i64 (S k))) (hb : Elts w bo n (fun k => .int .i64 (S k))) :
    Calls Try.prog 11 #[.slice ao n ca, .slice bo n cb] w fun e w' => e = .returned (.bool true) ∧ ∃ m, w' = w.drewN m := by
  go_enter Try.func11, Try.ntmps11
  go_wp2_with fail
  go_loopg [5] n (fun g i wr => ∃ k m : Nat, k ≤ n ∧ g = n - k ∧ i = .int .i64 k ∧ wr = w.drewN m)
  case atStart => exact ⟨0, 0, Nat.zero_le _, rfl, rfl, rfl⟩
  case round =>
    obtain ⟨k, m, hk, rfl, rfl, rfl⟩ := hrel
    by_cases hlt : k < n
    · obtain ⟨b1, o1, rfl, hc1⟩ := ha k hlt
      obtain ⟨b2, o2, rfl, hc2⟩ := hb k hlt
      obtain ⟨str, hstr⟩ : ∃ str, str = S k := ⟨_, rfl⟩
      have g1 : w.cell? ⟨b1, o1 + k, none⟩ = some (.int .i64 str) := by rw [hstr]; exact hc1
      have g2 : w.cell? ⟨b2, o2 + k, none⟩ = some (.int .i64 str) := by rw [hstr]; exact hc2
      clear hstr hc1 hc2
      go_wp2_with fail
      go_quiet (fail)
      go_wp2_with fail
      go_roundg (n - (k + 1))
      case measure => omega
      case rel => exact ⟨k + 1, _, by omega, rfl, by go_num, rfl⟩
    · go_wp2_with fail
      go_ret
      exact ⟨rfl, m, rfl⟩

set_option maxRecDepth 100000 in
set_option maxHeartbeats 1000000 in
theorem sameBytes_eq (w : World) (ao bo : Option Addr) (n ca cb : Nat) (S : Nat → Int) (hn : n ≤ 4611686018427387904) (ha : Elts w ao n (fun k => .int .u8 (S k))) (hb : Elts w bo n (fun k => .int .u8 (S k))) :
    Calls Try.prog 13 #[.slice ao n ca, .slice bo n cb] w fun e w' => e = .returned (.bool true) ∧ ∃ m, w' = w.drewN m := by
  go_enter Try.func13, Try.ntmps13
  go_wp2_with fail
  go_loopg [5] n (fun g i wr => ∃ k m : Nat, k ≤ n ∧ g = n - k ∧ i = .int .i64 k ∧ wr = w.drewN m)
  case atStart => exact ⟨0, 0, Nat.zero_le _, rfl, rfl, rfl⟩
  case round =>
    obtain ⟨k, m, hk, rfl, rfl, rfl⟩ := hrel
    by_cases hlt : k < n
    · obtain ⟨b1, o1, rfl, hc1⟩ := ha k hlt
      obtain ⟨b2, o2, rfl, hc2⟩ := hb k hlt
      obtain ⟨str, hstr⟩ : ∃ str, str = S k := ⟨_, rfl⟩
      have g1 : w.cell? ⟨b1, o1 + k, none⟩ = some (.int .u8 str) := by rw [hstr]; exact hc1
      have g2 : w.cell? ⟨b2, o2 + k, none⟩ = some (.int .u8 str) := by rw [hstr]; exact hc2
      clear hstr hc1 hc2
      go_wp2_with fail
      go_quiet (fail)
      go_wp2_with fail
      go_roundg (n - (k + 1))
      case measure => omega
      case rel => exact ⟨k + 1, _, by omega, rfl, by go_num, rfl⟩
    · go_wp2_with fail
      go_ret
      exact ⟨rfl, m, rfl⟩

end Go.Proofs.Qxb6618050a
