/-
  Statements 4 and 5: function 21, growPremise, ids numbered by the map.
-/
import Derived.Test.Qxb6619590aGrPrem
namespace Go.Proofs.Qxb6619590a
open Go.RowKit Go.Deep Go.Maps

def HeadM (n : Nat) (vN : Nat → Int) (ml : Nat) (lv : Int → Int) (lb : Int → Bool) : Prop := ml = n ∧ ∀ i, i < n → lb (vN i) = true ∧ lv (vN i) = (i : Int)

set_option maxRecDepth 100000 in
set_option maxHeartbeats 4000000 in
theorem prem_map (w : World) (G : Nat → Prop) (n lF lS cN cF cS ml : Nat) (aN aF aS : Option Addr) (vN FR ST : Nat → Int) (mn : Int) (m : Value) (lv : Int → Int) (lb : Int → Bool)
    (hN : Ints w G aN n vN) (hF : Ints w G aF lF FR) (hS : Ints w G aS lS ST) (hn : n ≤ 262144) (hlF : lF ≤ 262144) (hlS : lS ≤ 262144)
    (hv : Hid (∀ i, i < n → -2147483648 ≤ vN i ∧ vN i ≤ 2147483647)) (hvF : Hid (∀ i, i < lF → -2147483648 ≤ FR i ∧ FR i ≤ 2147483647)) (hvS : Hid (∀ i, i < lS → -2147483648 ≤ ST i ∧ ST i ≤ 2147483647))
    (hlen : (Builtin.len_ #[41] 3 #[m]).run Try.prog w = .ok (.int .i64 ml) w)
    (hlk : Hid (∀ x, -2147483648 ≤ x → x ≤ 2147483647 → (Instr.lookup 41 m (.int .i32 x) true).run Try.prog w = .ok (.tuple #[.int .i32 (lv x), .bool (lb x)]) w ∧ -2147483648 ≤ lv x ∧ lv x ≤ 2147483647)) :
    Calls Try.prog 21 #[.slice aN n cN, .int .i32 mn, .slice none 0 0, m, .slice aF lF cF, .slice aS lS cS] w (PremIs w (HeadM n vN ml lv lb ∧ Tail n lF FR lS ST)) := by
  have hq := fun w a n c n' c' => run_neq_slice_nil_any (P := Try.prog) w 22 21 a n c n' c' Try.underlying22
  have hno := fun q => PremIs.no w (HeadM n vN ml lv lb ∧ Tail n lF FR lS ST) q
  by_cases hc : ml = n
  · subst hc
    go_enter Try.func21, Try.ntmps21
    go_wp2_with fail
    clear hlen
    go_loopg [18, 19, 20] ml (fun gh s _ _ wr => ∃ i : Nat, i ≤ ml ∧ gh = ml - i ∧ s = .int .i64 i ∧ wr = w ∧ Hid (∀ j, j < i → lb (vN j) = true ∧ lv (vN j) = (j : Int)))
    case atStart => exact ⟨0, Nat.zero_le _, rfl, rfl, rfl, fun j hj => absurd hj (Nat.not_lt_zero j)⟩
    case round =>
      obtain ⟨i, hi, rfl, rfl, hwr, hall⟩ := hrel
      have hwr' := hwr.symm
      subst hwr'
      clear hwr
      by_cases hlt2 : i < ml
      · obtain ⟨b, o, rfl, _, hci⟩ := hN i hlt2
        have hvi := hv.out i hlt2
        have hzi : (i : Int) < ml := by omega
        obtain ⟨x, hx⟩ : ∃ x, x = vN i := ⟨_, rfl⟩
        rw [← hx] at hci hvi
        obtain ⟨hrun, hl0, hl1⟩ := hlk.out x hvi.1 hvi.2
        obtain ⟨y, hy⟩ : ∃ y, y = lv x := ⟨_, rfl⟩
        rw [← hy] at hrun hl0 hl1
        cases hb : lb x with
        | false =>
          rw [hb] at hrun
          clear hx hy hb
          go_wp2_with fail
          all_goals first
            | (go_ret; exact hno 0)
            | (exfalso; omega)
        | true =>
          by_cases hyi : y = (i : Int)
          · have hall' : Hid (∀ j, j < i + 1 → lb (vN j) = true ∧ lv (vN j) = (j : Int)) := fun j hj => by
              by_cases ej : j = i
              · subst ej; rw [← hx, ← hy]; exact ⟨hb, hyi⟩
              · exact hall.out j (by omega)
            rw [hb] at hrun
            clear hx hy hall hb
            subst hyi
            go_wp2_with fail
            go_roundg (ml - (i + 1))
            case measure => omega
            case rel => exact ⟨i + 1, by omega, rfl, by go_num, rfl, hall'⟩
          · have hyi' : (y == (i : Int)) = false := by simpa using hyi
            rw [hb] at hrun
            clear hx hy hb
            go_wp2_with fail
            all_goals first
              | (go_ret; exact hno 0)
              | (exfalso; omega)
      · obtain rfl : ml = i := by omega
        by_cases hl : lF = ml + 1
        · subst hl
          obtain ⟨bF, oF, haF, _, f0⟩ := hF 0 (by omega)
          obtain ⟨bF', oF', haF', _, fn⟩ := hF ml (by omega)
          rw [haF] at haF'
          cases haF'
          subst haF
          rw [Nat.add_zero] at f0
          have hz0 : (0 : Int) < ((ml + 1 : Nat) : Int) := by omega
          have hzn : (ml : Int) < ((ml + 1 : Nat) : Int) := by omega
          obtain ⟨fr0, hfr0⟩ : ∃ x, x = FR 0 := ⟨_, rfl⟩
          obtain ⟨frn, hfrn⟩ : ∃ x, x = FR ml := ⟨_, rfl⟩
          rw [← hfr0] at f0
          rw [← hfrn] at fn
          obtain ⟨hn0, hn1⟩ := hvF.out ml (by omega)
          rw [← hfrn] at hn0 hn1
          by_cases h0 : fr0 < 0
          · go_wp2_with fail
            all_goals first
              | (go_ret; exact hno 0)
              | (exfalso; omega)
          · by_cases h1 : (lS : Int) < frn
            · go_wp2_with fail
              all_goals first
                | (go_ret; exact hno 0)
                | (exfalso; omega)
            · have H0 : Hid (0 ≤ FR 0 ∧ FR ml ≤ lS) := ⟨by omega, by omega⟩
              clear hfr0 hfrn
              go_wp2_with fail
              clear f0 fn hz0 hzn h0 h1
              go_loopg [21] ml (fun gh s wr => ∃ k q : Nat, k ≤ ml ∧ gh = ml - k ∧ s = .int .i64 k ∧ wr = w.drewN q ∧ Hid (∀ j, j < k → FR j ≤ FR (j + 1)))
              case atStart => exact ⟨0, 0, Nat.zero_le _, rfl, rfl, rfl, fun j hj => absurd hj (Nat.not_lt_zero j)⟩
              case round =>
                obtain ⟨k, q, hk, rfl, rfl, hwr, hmono⟩ := hrel
                subst hwr
                by_cases hlt : k < ml
                · obtain ⟨b1, o1, e1, _, g1⟩ := hF k (by omega)
                  obtain ⟨b2, o2, e2, _, g2⟩ := hF (k + 1) (by omega)
                  cases e1
                  cases e2
                  have hz : (k : Int) < ml := by omega
                  have hk1 : (k : Int) < ((ml + 1 : Nat) : Int) := by omega
                  have hk2 : (k : Int) + 1 < ((ml + 1 : Nat) : Int) := by omega
                  obtain ⟨x, hx⟩ : ∃ x, x = FR k := ⟨_, rfl⟩
                  obtain ⟨y, hy⟩ : ∃ y, y = FR (k + 1) := ⟨_, rfl⟩
                  rw [← hx] at g1
                  rw [← hy] at g2
                  by_cases hxy : y < x
                  · clear hx hy
                    go_wp2_with fail
                    go_big_region
                    go_wp2_with fail
                    go_ret
                    exact hno _
                  · have hmono' : Hid (∀ j, j < k + 1 → FR j ≤ FR (j + 1)) := fun j hj => by
                      by_cases e : j = k
                      · subst e; omega
                      · exact hmono.out j (by omega)
                    clear hx hy hmono
                    go_wp2_with fail
                    go_big_region
                    go_wp2_with fail
                    go_roundg (ml - (k + 1))
                    case measure => omega
                    case rel => exact ⟨k + 1, _, by omega, rfl, by go_num, rfl, hmono'⟩
                · obtain rfl : k = ml := by omega
                  go_wp2_with fail
                  go_loopg [22] lS (fun gh s wr => ∃ e : Nat, e ≤ lS ∧ gh = lS - e ∧ s = .int .i64 e ∧ wr = w.drewN q ∧ Hid (∀ j, j < e → 0 ≤ ST j ∧ ST j < k))
                  case atStart => exact ⟨0, Nat.zero_le _, rfl, rfl, rfl, fun j hj => absurd hj (Nat.not_lt_zero j)⟩
                  case round =>
                    obtain ⟨e, he, rfl, rfl, hwr, hst⟩ := hrel
                    subst hwr
                    by_cases hlt2 : e < lS
                    · obtain ⟨b1, o1, rfl, _, g1⟩ := hS e hlt2
                      have hz : (e : Int) < lS := by omega
                      obtain ⟨x, hx⟩ : ∃ x, x = ST e := ⟨_, rfl⟩
                      rw [← hx] at g1
                      obtain ⟨hxa, hxb⟩ := hvS.out e hlt2
                      rw [← hx] at hxa hxb
                      by_cases hx0 : x < 0
                      · clear hx
                        go_wp2_with fail
                        go_ret
                        exact hno _
                      · by_cases hx1 : (k : Int) ≤ x
                        · clear hx
                          go_wp2_with fail
                          go_ret
                          exact hno _
                        · have hst' : Hid (∀ j, j < e + 1 → 0 ≤ ST j ∧ ST j < k) := fun j hj => by
                            by_cases ej : j = e
                            · subst ej; omega
                            · exact hst.out j (by omega)
                          clear hx hst
                          go_wp2_with fail
                          go_roundg (lS - (e + 1))
                          case measure => omega
                          case rel => exact ⟨e + 1, by omega, rfl, by go_num, rfl, hst'⟩
                    · obtain rfl : e = lS := by omega
                      go_wp2_with fail
                      go_ret
                      exact PremIs.yes ⟨⟨rfl, hall.out⟩, rfl, H0.out.1, H0.out.2, hmono.out, hst.out⟩ _
        · have hl' : ((lF : Int) == (ml : Int) + 1) = false := by simp; omega
          go_wp2_with fail
          all_goals first
            | (go_ret; exact hno 0)
            | (exfalso; omega)
  · have hc' : ((ml : Int) == (n : Int)) = false := by simp; omega
    go_enter Try.func21, Try.ntmps21
    go_wp2_with fail
    all_goals first
      | (go_ret; exact hno 0)
      | (exfalso; omega)

end Go.Proofs.Qxb6619590a

