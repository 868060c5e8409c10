/-
  Statements 4 and 5: function 21, growPremise.
-/
import Derived.Test.Qxb6619590aGrPlain
namespace Go.Proofs.Qxb6619590a
open Go.RowKit Go.Deep Go.Maps

def Tail (n lF : Nat) (FR : Nat → Int) (lS : Nat) (ST : Nat → Int) : Prop := lF = n + 1 ∧ 0 ≤ FR 0 ∧ FR n ≤ lS ∧ (∀ k, k < n → FR k ≤ FR (k + 1)) ∧ ∀ e, e < lS → 0 ≤ ST e ∧ ST e < n
def HeadD (n : Nat) (vN : Nat → Int) (mn : Int) (lD : Nat) (vD : Nat → Int) : Prop := cnt (fun j => decide (0 < vD j)) lD = n ∧ ∀ i, i < n → 0 ≤ vN i - mn ∧ vN i - mn < lD ∧ vD (vN i - mn).toNat = (i : Int) + 1

def PremIs (w : World) (P : Prop) (e : Ending) (w' : World) : Prop := (∃ b, e = .returned (.bool b) ∧ (b = true → P)) ∧ ∃ q, w' = w.drewN q
theorem PremIs.no (w : World) (P : Prop) (q : Nat) : PremIs w P (.returned (.bool false)) (w.drewN q) := ⟨⟨false, rfl, fun h => by cases h⟩, q, rfl⟩
theorem PremIs.yes {w : World} {P : Prop} (h : P) (q : Nat) : PremIs w P (.returned (.bool true)) (w.drewN q) := ⟨⟨true, rfl, fun _ => h⟩, q, rfl⟩

set_option maxRecDepth 100000 in
set_option maxHeartbeats 4000000 in
theorem prem_dense (w : World) (G : Nat → Prop) (n lD lF lS cN cD cF cS : Nat) (aN aF aS : Option Addr) (aD : Addr) (vN vD FR ST : Nat → Int) (mn : Int) (m : Value)
    (hN : Ints w G aN n vN) (hD : Ints w G (some aD) lD vD) (hF : Ints w G aF lF FR) (hS : Ints w G aS lS ST) (hn : n ≤ 262144) (hlD : lD ≤ 262144) (hlF : lF ≤ 262144) (hlS : lS ≤ 262144)
    (hv : Hid (∀ i, i < n → -2147483648 ≤ vN i ∧ vN i ≤ 2147483647)) (hvD : Hid (∀ i, i < lD → -2147483648 ≤ vD i ∧ vD i ≤ 2147483647)) (hvF : Hid (∀ i, i < lF → -2147483648 ≤ FR i ∧ FR i ≤ 2147483647)) (hvS : Hid (∀ i, i < lS → -2147483648 ≤ ST i ∧ ST i ≤ 2147483647)) (hm0 : -2147483648 ≤ mn) (hm1 : mn ≤ 2147483647) :
    Calls Try.prog 21 #[.slice aN n cN, .int .i32 mn, .slice (some aD) lD cD, m, .slice aF lF cF, .slice aS lS cS] w (PremIs w (HeadD n vN mn lD vD ∧ Tail n lF FR lS ST)) := by
  have hq := fun w a n c n' c' => run_neq_slice_nil_any (P := Try.prog) w 22 21 a n c n' c' Try.underlying22
  have hno := fun q => PremIs.no w (HeadD n vN mn lD vD ∧ Tail n lF FR lS ST) q
  go_enter Try.func21, Try.ntmps21
  go_wp2_with fail
  go_loopg [14, 15] lD (fun gh s14 s15 wr => ∃ r : Nat, r ≤ lD ∧ gh = lD - r ∧ s14 = .int .i64 (cnt (fun j => decide (0 < vD j)) r : Int) ∧ s15 = .int .i64 r ∧ wr = w)
  case atStart => exact ⟨0, Nat.zero_le _, rfl, rfl, rfl, rfl⟩
  case round =>
    obtain ⟨r, hr, rfl, rfl, rfl, hwr⟩ := hrel
    have hwr' := hwr.symm
    subst hwr'
    clear hwr
    by_cases hlt : r < lD
    · obtain ⟨b, o, e, _, hc⟩ := hD r hlt
      cases e
      have hz : (r : Int) < lD := by omega
      have hcb := cnt_le (fun j => decide (0 < vD j)) r
      have hcs := cnt_succ (fun j => decide (0 < vD j)) r
      generalize cnt (fun j => decide (0 < vD j)) r = c0 at *
      by_cases hp : 0 < vD r
      · rw [if_pos (by simpa using hp)] at hcs
        generalize vD r = y at hc hp
        go_wp2_with fail
        go_roundg (lD - (r + 1))
        case measure => omega
        case rel => exact ⟨r + 1, by omega, rfl, by rw [hcs]; go_num, by go_num, rfl⟩
      · rw [if_neg (by simpa using hp), Nat.add_zero] at hcs
        generalize vD r = y at hc hp
        go_wp2_with fail
        go_roundg (lD - (r + 1))
        case measure => omega
        case rel => exact ⟨r + 1, by omega, rfl, by rw [hcs]; rfl, by go_num, rfl⟩
    · obtain rfl : r = lD := by omega
      by_cases hc : cnt (fun j => decide (0 < vD j)) r = n
      · have hcn : (cnt (fun j => decide (0 < vD j)) r : Int) = n := by omega
        have Hc : Hid (cnt (fun j => decide (0 < vD j)) r = n) := hc
        rw [hcn]
        clear hc hcn
        go_wp2_with fail
        go_loopg [16, 17] n (fun gh s _ wr => ∃ i : Nat, i ≤ n ∧ gh = n - i ∧ s = .int .i64 i ∧ wr = w ∧ Hid (∀ j, j < i → 0 ≤ vN j - mn ∧ vN j - mn < r ∧ vD (vN j - mn).toNat = (j : Int) + 1))
        case atStart => exact ⟨0, Nat.zero_le _, rfl, rfl, rfl, fun j hj => absurd hj (Nat.not_lt_zero j)⟩
        case round =>
          obtain ⟨i, hi, rfl, rfl, hwr, hall⟩ := hrel
          have hwr' := hwr.symm
          subst hwr'
          clear hwr
          by_cases hlt2 : i < n
          · obtain ⟨b, o, rfl, _, hci⟩ := hN i hlt2
            have hvi := hv.out i hlt2
            have hzi : (i : Int) < n := by omega
            obtain ⟨x, hx⟩ : ∃ x, x = vN i := ⟨_, rfl⟩
            rw [← hx] at hci hvi
            obtain ⟨hv0, hv1⟩ := hvi
            have hw1 := wrap_in (x - mn) (by omega) (by omega)
            by_cases h0 : x - mn < 0
            · clear hx
              go_wp2_with fail
              go_ret
              exact hno 0
            · by_cases h1 : (r : Int) ≤ x - mn
              · clear hx
                go_wp2_with fail
                go_ret
                exact hno 0
              · obtain ⟨bD, oD, eD, _, hcd⟩ := hD (x - mn).toNat (by omega)
                cases eD
                have h0' : 0 ≤ x - mn := by omega
                have h1' : x - mn < r := by omega
                obtain ⟨y, hy⟩ : ∃ y, y = vD (x - mn).toNat := ⟨_, rfl⟩
                rw [← hy] at hcd
                obtain ⟨hy0, hy1⟩ := hvD.out (x - mn).toNat (by omega)
                rw [← hy] at hy0 hy1
                by_cases hyi : y = (i : Int) + 1
                · have hall' : Hid (∀ j, j < i + 1 → 0 ≤ vN j - mn ∧ vN j - mn < r ∧ vD (vN j - mn).toNat = (j : Int) + 1) := fun j hj => by
                    by_cases ej : j = i
                    · subst ej; rw [← hx, ← hy]; exact ⟨h0', h1', hyi⟩
                    · exact hall.out j (by omega)
                  clear hx hy hall
                  subst hyi
                  go_wp2_with fail
                  go_roundg (n - (i + 1))
                  case measure => omega
                  case rel => exact ⟨i + 1, by omega, rfl, by go_num, rfl, hall'⟩
                · have hyi' : (y == (i : Int) + 1) = false := by simpa using hyi
                  clear hx hy
                  go_wp2_with fail
                  all_goals first
                    | (go_ret; exact hno 0)
                    | (exfalso; omega)
          · obtain rfl : n = i := by omega
            by_cases hl : lF = n + 1
            · subst hl
              obtain ⟨bF, oF, haF, _, f0⟩ := hF 0 (by omega)
              obtain ⟨bF', oF', haF', _, fn⟩ := hF n (by omega)
              rw [haF] at haF'
              cases haF'
              subst haF
              rw [Nat.add_zero] at f0
              have hz0 : (0 : Int) < ((n + 1 : Nat) : Int) := by omega
              have hzn : (n : Int) < ((n + 1 : Nat) : Int) := by omega
              obtain ⟨fr0, hfr0⟩ : ∃ x, x = FR 0 := ⟨_, rfl⟩
              obtain ⟨frn, hfrn⟩ : ∃ x, x = FR n := ⟨_, rfl⟩
              rw [← hfr0] at f0
              rw [← hfrn] at fn
              obtain ⟨hn0, hn1⟩ := hvF.out n (by omega)
              rw [← hfrn] at hn0 hn1
              by_cases h0 : fr0 < 0
              · go_wp2_with fail
                all_goals first
                  | (go_ret; exact hno 0)
                  | (exfalso; omega)
              · by_cases h1 : (lS : Int) < frn
                · go_wp2_with fail
                  all_goals first
                    | (go_ret; exact hno 0)
                    | (exfalso; omega)
                · have H0 : Hid (0 ≤ FR 0 ∧ FR n ≤ lS) := ⟨by omega, by omega⟩
                  clear hfr0 hfrn
                  go_wp2_with fail
                  clear f0 fn hz0 hzn h0 h1
                  go_loopg [21] n (fun gh s wr => ∃ k q : Nat, k ≤ n ∧ gh = n - k ∧ s = .int .i64 k ∧ wr = w.drewN q ∧ Hid (∀ j, j < k → FR j ≤ FR (j + 1)))
                  case atStart => exact ⟨0, 0, Nat.zero_le _, rfl, rfl, rfl, fun j hj => absurd hj (Nat.not_lt_zero j)⟩
                  case round =>
                    obtain ⟨k, q, hk, rfl, rfl, hwr, hmono⟩ := hrel
                    subst hwr
                    by_cases hlt : k < n
                    · obtain ⟨b1, o1, e1, _, g1⟩ := hF k (by omega)
                      obtain ⟨b2, o2, e2, _, g2⟩ := hF (k + 1) (by omega)
                      cases e1
                      cases e2
                      have hz : (k : Int) < n := by omega
                      have hk1 : (k : Int) < ((n + 1 : Nat) : Int) := by omega
                      have hk2 : (k : Int) + 1 < ((n + 1 : Nat) : Int) := by omega
                      obtain ⟨x, hx⟩ : ∃ x, x = FR k := ⟨_, rfl⟩
                      obtain ⟨y, hy⟩ : ∃ y, y = FR (k + 1) := ⟨_, rfl⟩
                      rw [← hx] at g1
                      rw [← hy] at g2
                      by_cases hxy : y < x
                      · clear hx hy
                        go_wp2_with fail
                        go_big_region
                        go_wp2_with fail
                        go_ret
                        exact hno _
                      · have hmono' : Hid (∀ j, j < k + 1 → FR j ≤ FR (j + 1)) := fun j hj => by
                          by_cases e : j = k
                          · subst e; omega
                          · exact hmono.out j (by omega)
                        clear hx hy hmono
                        go_wp2_with fail
                        go_big_region
                        go_wp2_with fail
                        go_roundg (n - (k + 1))
                        case measure => omega
                        case rel => exact ⟨k + 1, _, by omega, rfl, by go_num, rfl, hmono'⟩
                    · obtain rfl : k = n := by omega
                      go_wp2_with fail
                      go_loopg [22] lS (fun gh s wr => ∃ e : Nat, e ≤ lS ∧ gh = lS - e ∧ s = .int .i64 e ∧ wr = w.drewN q ∧ Hid (∀ j, j < e → 0 ≤ ST j ∧ ST j < k))
                      case atStart => exact ⟨0, Nat.zero_le _, rfl, rfl, rfl, fun j hj => absurd hj (Nat.not_lt_zero j)⟩
                      case round =>
                        obtain ⟨e, he, rfl, rfl, hwr, hst⟩ := hrel
                        subst hwr
                        by_cases hlt2 : e < lS
                        · obtain ⟨b1, o1, rfl, _, g1⟩ := hS e hlt2
                          have hz : (e : Int) < lS := by omega
                          obtain ⟨x, hx⟩ : ∃ x, x = ST e := ⟨_, rfl⟩
                          rw [← hx] at g1
                          obtain ⟨hxa, hxb⟩ := hvS.out e hlt2
                          rw [← hx] at hxa hxb
                          by_cases hx0 : x < 0
                          · clear hx
                            go_wp2_with fail
                            go_ret
                            exact hno _
                          · by_cases hx1 : (k : Int) ≤ x
                            · clear hx
                              go_wp2_with fail
                              go_ret
                              exact hno _
                            · have hst' : Hid (∀ j, j < e + 1 → 0 ≤ ST j ∧ ST j < k) := fun j hj => by
                                by_cases ej : j = e
                                · subst ej; omega
                                · exact hst.out j (by omega)
                              clear hx hst
                              go_wp2_with fail
                              go_roundg (lS - (e + 1))
                              case measure => omega
                              case rel => exact ⟨e + 1, by omega, rfl, by go_num, rfl, hst'⟩
                        · obtain rfl : e = lS := by omega
                          go_wp2_with fail
                          go_ret
                          exact PremIs.yes ⟨⟨Hc.out, hall.out⟩, rfl, H0.out.1, H0.out.2, hmono.out, hst.out⟩ _
            · have hl' : ((lF : Int) == (n : Int) + 1) = false := by simp; omega
              go_wp2_with fail
              all_goals first
                | (go_ret; exact hno 0)
                | (exfalso; omega)
      · have hc' : ((cnt (fun j => decide (0 < vD j)) r : Int) == (n : Int)) = false := by simp; omega
        go_wp2_with fail
        go_ret
        exact hno 0

end Go.Proofs.Qxb6619590a
