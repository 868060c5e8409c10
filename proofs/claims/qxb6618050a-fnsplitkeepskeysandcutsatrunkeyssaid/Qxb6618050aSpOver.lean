/-
  Statement 1: function 5, splitBytesOver.
-/
import Derived.Test.Qxb6618050aSpSizes
namespace Go.Proofs.Qxb6618050a
open Go.RowKit Go.Deep

set_option maxRecDepth 100000 in
set_option maxHeartbeats 1000000 in
theorem over_any (w : World) (B : Nat) (aK aE aB : Option Addr) (nK cK nE cE nB cB : Nat) (AK AE AB : Nat → Option Addr) (LK CK LE CE LB CB : Nat → Nat) (S : Nat → Nat → ByteArray) (VE VB : Nat → Nat → Value) (root : ByteArray)
    (hK : Grid w B aK nK AK LK CK (fun j k => .string (S j k))) (hE : Grid w B aE nE AE LE CE VE) (hB : Grid w B aB nB AB LB CB VB)
    (hS : Hid (∀ j k, (S j k).size ≤ 9223372036854775807)) (hr : root.size ≤ 9223372036854775807) (hsm : Small nK nE nB LK LE LB) :
    Calls Try.prog 5 #[.slice aK nK cK, .slice aE nE cE, .slice aB nB cB, .string root] w (SomeBool w True) := by
  have h1 := hsm.k
  have h2 := hsm.e
  have h3 := hsm.b
  by_cases hr2 : root.size ≤ 1048576
  · go_enter Try.func5, Try.ntmps5
    go_wp2_with fail
    · go_ret; exact SomeBool.yes trivial
    go_loop [9, 10] (fun z i => ∃ (k : Nat) (s : Int), k ≤ nK ∧ i = .int .i64 k ∧ z = .int .i64 s ∧ 0 ≤ s ∧ s ≤ 1048576) (fun _ i => nK - (intOf i).toNat)
    case atStart => exact ⟨0, _, Nat.zero_le _, rfl, rfl, by omega, by omega⟩
    case round =>
      obtain ⟨k, s, hk, rfl, rfl, hs0, hs1⟩ := hrel
      by_cases hlt : k < nK
      · obtain ⟨b, o, rfl, hb, hc⟩ := hK.row k hlt
        have hll := hsm.lk k hlt
        go_wp2_with fail
        · go_ret; exact SomeBool.yes trivial
        go_loop [9, 12] (fun z i => ∃ (m : Nat) (s : Int), m ≤ LK k ∧ i = .int .i64 m ∧ z = .int .i64 s ∧ 0 ≤ s ∧ s ≤ 1048576) (fun _ i => LK k - (intOf i).toNat)
        case atStart => exact ⟨0, _, Nat.zero_le _, rfl, rfl, by omega, by omega⟩
        case round =>
          obtain ⟨m, s, hm, rfl, rfl, hs0, hs1⟩ := hrel
          by_cases hlt2 : m < LK k
          · obtain ⟨b2, o2, hA, hb2, hc2⟩ := hK.elt k hlt m hlt2
            have hsz := hS.out k m
            obtain ⟨str, hstr⟩ : ∃ str, str = S k m := ⟨_, rfl⟩
            rw [← hstr] at hsz
            have hc3 : w.cell? ⟨b2, o2 + m, none⟩ = some (.string str) := by rw [hstr]; exact hc2
            clear hstr hc2
            rw [hA]
            go_wp2_with fail
            · go_ret; exact SomeBool.yes trivial
            · go_ret; exact SomeBool.yes trivial
            go_round
            case rel => exact ⟨m + 1, _, by omega, by go_num, rfl, by omega, by omega⟩
            case measure => simp [intOf]; omega
          · go_wp2_with fail
            go_round
            case rel => exact ⟨k + 1, _, by omega, by go_num, rfl, by omega, by omega⟩
            case measure => simp [intOf]; omega
      · go_wp2_with fail
        clear hk hlt
        go_loop [9, 13] (fun z i => ∃ (k : Nat) (s : Int), k ≤ nE ∧ i = .int .i64 k ∧ z = .int .i64 s ∧ 0 ≤ s ∧ s ≤ 1048576) (fun _ i => nE - (intOf i).toNat)
        case atStart => exact ⟨0, _, Nat.zero_le _, rfl, rfl, by omega, by omega⟩
        case round =>
          obtain ⟨k, s, hk, rfl, rfl, hs0, hs1⟩ := hrel
          by_cases hlt : k < nE
          · obtain ⟨b, o, rfl, hb, hc⟩ := hE.row k hlt
            have hll := hsm.le k hlt
            go_wp2_with fail
            · go_ret; exact SomeBool.yes trivial
            go_round
            case rel => exact ⟨k + 1, _, by omega, by go_num, rfl, by omega, by omega⟩
            case measure => simp [intOf]; omega
          · go_wp2_with fail
            clear hk hlt
            go_loop [9, 14] (fun z i => ∃ (k : Nat) (s : Int), k ≤ nB ∧ i = .int .i64 k ∧ z = .int .i64 s ∧ 0 ≤ s ∧ s ≤ 1048576) (fun _ i => nB - (intOf i).toNat)
            case atStart => exact ⟨0, _, Nat.zero_le _, rfl, rfl, by omega, by omega⟩
            case round =>
              obtain ⟨k, s, hk, rfl, rfl, hs0, hs1⟩ := hrel
              by_cases hlt : k < nB
              · obtain ⟨b, o, rfl, hb, hc⟩ := hB.row k hlt
                have hll := hsm.lb k hlt
                go_wp2_with fail
                · go_ret; exact SomeBool.yes trivial
                go_round
                case rel => exact ⟨k + 1, _, by omega, by go_num, rfl, by omega, by omega⟩
                case measure => simp [intOf]; omega
              · go_wp2_with fail
                go_ret
                exact SomeBool.no
  · go_enter Try.func5, Try.ntmps5
    go_wp2_with fail
    go_ret; exact SomeBool.yes trivial

end Go.Proofs.Qxb6618050a
