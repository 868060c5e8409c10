/-
  Statement 1: functions 4 and 5, the two size tests.
-/
import Derived.Test.Qxb6618050aSpBase
namespace Go.Proofs.Qxb6618050a
open Go.RowKit Go.Deep

/-- Every length is at most 1<<20. -/
structure Small (nK nE nB : Nat) (LK LE LB : Nat → Nat) : Prop where
  k : nK ≤ 1048576
  e : nE ≤ 1048576
  b : nB ≤ 1048576
  lk : ∀ j, j < nK → LK j ≤ 1048576
  le : ∀ j, j < nE → LE j ≤ 1048576
  lb : ∀ j, j < nB → LB j ≤ 1048576

/-- Every length of the first k is at most 1<<20. -/
structure Upto (L : Nat → Nat) (k : Nat) : Prop where
  all : ∀ j, j < k → L j ≤ 1048576
theorem Upto.start (L : Nat → Nat) : Upto L 0 := ⟨fun j h => absurd h (Nat.not_lt_zero j)⟩
theorem Upto.next {L : Nat → Nat} {k : Nat} (h : Upto L k) (hk : L k ≤ 1048576) : Upto L (k + 1) := ⟨fun j hj => by
  by_cases e : j = k
  · subst e; exact hk
  · exact h.all j (by omega)⟩

/-- A bool comes back, the world is as it was; if it is true, p holds. -/
def SomeBool (w : World) (p : Prop) (e : Ending) (w' : World) : Prop := ∃ b, e = .returned (.bool b) ∧ w' = w ∧ (b = true → p)
theorem SomeBool.no {w : World} {p : Prop} : SomeBool w p (.returned (.bool false)) w := ⟨false, rfl, rfl, fun h => by cases h⟩
theorem SomeBool.yes {w : World} {p : Prop} (h : p) : SomeBool w p (.returned (.bool true)) w := ⟨true, rfl, rfl, fun _ => h⟩

set_option maxRecDepth 100000 in
set_option maxHeartbeats 1000000 in
theorem zz_any (w : World) (B : Nat) (aK aE aB : Option Addr) (nK cK nE cE nB cB : Nat) (AK AE AB : Nat → Option Addr) (LK CK LE CE LB CB : Nat → Nat) (S : Nat → Nat → ByteArray) (VE VB : Nat → Nat → Value) (first i : Int) (root : ByteArray)
    (hK : Grid w B aK nK AK LK CK (fun j k => .string (S j k))) (hE : Grid w B aE nE AE LE CE VE) (hB : Grid w B aB nB AB LB CB VB)
    (hS : Hid (∀ j k, (S j k).size ≤ 9223372036854775807)) (hr : root.size ≤ 9223372036854775807) (h1 : nK ≤ 9223372036854775807) (h2 : nE ≤ 9223372036854775807) (h3 : nB ≤ 9223372036854775807) :
    Calls Try.prog 4 #[.slice aK nK cK, .slice aE nE cE, .slice aB nB cB, .int .i64 first, .string root, .int .i64 i] w (SomeBool w (Small nK nE nB LK LE LB)) := by
  go_enter Try.func4, Try.ntmps4
  go_wp2_with fail
  · go_ret; exact SomeBool.no
  go_loop [13, 14] (fun z i => ∃ (k : Nat) (s : Int), k ≤ nK ∧ i = .int .i64 k ∧ z = .int .i64 s ∧ 0 ≤ s ∧ s ≤ 1048576 ∧ Upto LK k) (fun _ i => nK - (intOf i).toNat)
  case atStart => exact ⟨0, _, Nat.zero_le _, rfl, rfl, by omega, by omega, Upto.start _⟩
  case round =>
    obtain ⟨k, s, hk, rfl, rfl, hs0, hs1, hup⟩ := hrel
    by_cases hlt : k < nK
    · obtain ⟨b, o, rfl, hb, hc⟩ := hK.row k hlt
      have hll := hK.len k hlt
      go_wp2_with fail
      · go_ret; exact SomeBool.no
      · go_ret; exact SomeBool.no
      have hup' : Upto LK (k + 1) := hup.next (by omega)
      go_loop [13, 15] (fun z i => ∃ (m : Nat) (s : Int), m ≤ LK k ∧ i = .int .i64 m ∧ z = .int .i64 s ∧ 0 ≤ s ∧ s ≤ 1048576) (fun _ i => LK k - (intOf i).toNat)
      case atStart => exact ⟨0, _, Nat.zero_le _, rfl, rfl, by omega, by omega⟩
      case round =>
        obtain ⟨m, s, hm, rfl, rfl, hs0, hs1⟩ := hrel
        by_cases hlt2 : m < LK k
        · obtain ⟨b2, o2, hA, hb2, hc2⟩ := hK.elt k hlt m hlt2
          have hsz := hS.out k m
          obtain ⟨str, hstr⟩ : ∃ str, str = S k m := ⟨_, rfl⟩
          rw [← hstr] at hsz
          have hc3 : w.cell? ⟨b2, o2 + m, none⟩ = some (.string str) := by rw [hstr]; exact hc2
          clear hstr hc2
          go_wp2_with fail
          · go_ret; exact SomeBool.no
          · go_ret; exact SomeBool.no
          go_round
          case rel => exact ⟨m + 1, _, by omega, by go_num, rfl, by omega, by omega⟩
          case measure => simp [intOf]; omega
        · go_wp2_with fail
          go_round
          case rel => exact ⟨k + 1, _, by omega, by go_num, rfl, by omega, by omega, hup'⟩
          case measure => simp [intOf]; omega
    · have hkn : Upto LK nK := by
        obtain rfl : k = nK := by omega
        exact hup
      go_wp2_with fail
      · go_ret; exact SomeBool.no
      · go_ret; exact SomeBool.no
      clear hk hup hlt
      go_loop [13, 16] (fun z i => ∃ (k : Nat) (s : Int), k ≤ nE ∧ i = .int .i64 k ∧ z = .int .i64 s ∧ 0 ≤ s ∧ s ≤ 1048576 ∧ Upto LE k) (fun _ i => nE - (intOf i).toNat)
      case atStart => exact ⟨0, _, Nat.zero_le _, rfl, rfl, by omega, by omega, Upto.start _⟩
      case round =>
        obtain ⟨k, s, hk, rfl, rfl, hs0, hs1, hup⟩ := hrel
        by_cases hlt : k < nE
        · obtain ⟨b, o, rfl, hb, hc⟩ := hE.row k hlt
          have hll := hE.len k hlt
          go_wp2_with fail
          · go_ret; exact SomeBool.no
          · go_ret; exact SomeBool.no
          have hup' : Upto LE (k + 1) := hup.next (by omega)
          go_round
          case rel => exact ⟨k + 1, _, by omega, by go_num, rfl, by omega, by omega, hup'⟩
          case measure => simp [intOf]; omega
        · have hen : Upto LE nE := by
            obtain rfl : k = nE := by omega
            exact hup
          go_wp2_with fail
          · go_ret; exact SomeBool.no
          · go_ret; exact SomeBool.no
          clear hk hup hlt
          go_loop [13, 17] (fun z i => ∃ (k : Nat) (s : Int), k ≤ nB ∧ i = .int .i64 k ∧ z = .int .i64 s ∧ 0 ≤ s ∧ s ≤ 1048576 ∧ Upto LB k) (fun _ i => nB - (intOf i).toNat)
          case atStart => exact ⟨0, _, Nat.zero_le _, rfl, rfl, by omega, by omega, Upto.start _⟩
          case round =>
            obtain ⟨k, s, hk, rfl, rfl, hs0, hs1, hup⟩ := hrel
            by_cases hlt : k < nB
            · obtain ⟨b, o, rfl, hb, hc⟩ := hB.row k hlt
              have hll := hB.len k hlt
              go_wp2_with fail
              · go_ret; exact SomeBool.no
              · go_ret; exact SomeBool.no
              have hup' : Upto LB (k + 1) := hup.next (by omega)
              go_round
              case rel => exact ⟨k + 1, _, by omega, by go_num, rfl, by omega, by omega, hup'⟩
              case measure => simp [intOf]; omega
            · have hbn : Upto LB nB := by
                obtain rfl : k = nB := by omega
                exact hup
              go_wp2_with fail
              · go_ret; exact SomeBool.no
              · go_ret; exact SomeBool.no
              go_ret
              exact SomeBool.yes ⟨by omega, by omega, by omega, hkn.all, hen.all, hbn.all⟩

end Go.Proofs.Qxb6618050a
