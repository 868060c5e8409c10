/-
  Statement 1: function 10, flattenKeys.
-/
import Derived.Test.Qxb6618050aSpSame
import Derived.Test.Qxb6618050aSpClK
namespace Go.Proofs.Qxb6618050a
open Go.RowKit Go.Deep

/-- The keys of the first j rows, end to end. -/
def flat (L : Nat → Nat) (S : Nat → Nat → ByteArray) : Nat → List ByteArray
  | 0 => []
  | j + 1 => flat L S j ++ (List.range (L j)).map (S j)

/-- .. and the first c of row r. -/
def flatc (L : Nat → Nat) (S : Nat → Nat → ByteArray) (r c : Nat) : List ByteArray := flat L S r ++ (List.range c).map (S r)

theorem flat_le {L : Nat → Nat} {S : Nat → Nat → ByteArray} {n : Nat} (h : ∀ j, j < n → L j ≤ 1048576) : ∀ j, j ≤ n → (flat L S j).length ≤ j * 1048576
  | 0, _ => by simp [flat]
  | j + 1, hj => by
    have := flat_le (S := S) h j (by omega)
    have := h j (by omega)
    simp [flat]; omega

theorem flatc_zero (L : Nat → Nat) (S : Nat → Nat → ByteArray) (r : Nat) : flatc L S r 0 = flat L S r := by simp [flatc]
theorem flatc_full (L : Nat → Nat) (S : Nat → Nat → ByteArray) (r : Nat) : flatc L S r (L r) = flat L S (r + 1) := by simp [flatc, flat]
theorem flatc_step (L : Nat → Nat) (S : Nat → Nat → ByteArray) (r c : Nat) : flatc L S r (c + 1) = flatc L S r c ++ [S r c] := by simp [flatc, List.range_succ]
theorem flatc_length (L : Nat → Nat) (S : Nat → Nat → ByteArray) (r c : Nat) : (flatc L S r c).length = (flat L S r).length + c := by simp [flatc]

/-- v owns the strings ss in wr; nothing of w has turned. -/
structure OwnStrs (w wr : World) (v : Value) (ss : List ByteArray) : Prop where
  below : Below w.heap.size w wr
  own : wr.ownsRow w.heap.size 9 1 v ss.length (ss.map Value.string)

theorem OwnStrs.next {w wr w1 : World} {v v' : Value} {ss : List ByteArray} {s : ByteArray} (h : OwnStrs w wr v ss) (h1 : w1.ownsRow w.heap.size 9 1 v' (ss.length + 1) (ss.map Value.string ++ [.string s]))
    (hg : (wr.alloc (.cells #[.string s] 9)).grownBy w1 v.ownBlock) : OwnStrs w w1 v' (ss ++ [s]) :=
  ⟨(h.below.alloc h.below.size _).grown hg (by have := h.below.size; simp; omega) (fun k hk => (h.own.lt k hk).1), by simpa using h1⟩

set_option maxRecDepth 100000 in
set_option maxHeartbeats 1000000 in
theorem flatten_any (w : World) (B : Nat) (ao : Option Addr) (n cp : Nat) (A : Nat → Option Addr) (L C : Nat → Nat) (S : Nat → Nat → ByteArray)
    (hg : Grid w B ao n A L C (fun j k => .string (S j k))) (hB : B ≤ w.heap.size) (hn : n ≤ 1048577) (hL : Hid (∀ j, j < n → L j ≤ 1048576)) :
    Calls Try.prog 10 #[.slice ao n cp] w fun e w' => ∃ v, e = .returned v ∧ OwnStrs w w' v (flat L S n) := by
  obtain ⟨i0, hi, hz0, hz1, hz2⟩ := info_parts Try.info9
  go_enter Try.func10, Try.ntmps10
  go_wp2_with fail
  go_loopg [3, 4] n (fun g v i wr => ∃ r : Nat, r ≤ n ∧ g = n - r ∧ i = .int .i64 r ∧ OwnStrs w wr v (flat L S r))
  case atStart => exact ⟨0, Nat.zero_le _, rfl, rfl, Below.refl _ _, World.ownsRow_nil _ _ _ _⟩
  case round =>
    obtain ⟨r, hr, rfl, rfl, hO⟩ := hrel
    by_cases hlt : r < n
    · have hfl := flat_le (S := S) hL.out r (by omega)
      obtain ⟨b, o, rfl, hb, hc⟩ := hg.row r hlt
      have hLr := hL.out r hlt
      have hO' : OwnStrs w wr u3 (flatc L S r 0) := by rw [flatc_zero]; exact hO
      clear hO
      go_wp2_with fail
      go_loopg [3, 5] (L r) (fun g v i wi => ∃ c : Nat, c ≤ L r ∧ g = L r - c ∧ i = .int .i64 c ∧ OwnStrs w wi v (flatc L S r c))
      case atStart => exact ⟨0, Nat.zero_le _, rfl, rfl, hO'⟩
      case round =>
        obtain ⟨c, hcl, rfl, rfl, hI⟩ := hrel
        clear hO'
        have g1 : wr.cell? ⟨b, o + r, none⟩ = some (.slice (A r) (L r) (C r)) := by rw [hI.below.cell (p := ⟨b, o + r, none⟩) (by exact Nat.lt_of_lt_of_le hb hB)]; exact hc
        by_cases hlt2 : c < L r
        · obtain ⟨b2, o2, e2, hb2, hc2⟩ := hg.elt r hlt c hlt2
          rw [e2] at g1
          have hlen := flatc_length L S r c
          have hst := flatc_step L S r c
          obtain ⟨str, hstr⟩ : ∃ str, str = S r c := ⟨_, rfl⟩
          have g2 : wr.cell? ⟨b2, o2 + c, none⟩ = some (.string str) := by rw [hI.below.cell (p := ⟨b2, o2 + c, none⟩) (by exact Nat.lt_of_lt_of_le hb2 hB), hstr]; exact hc2
          rw [← hstr] at hst
          obtain ⟨ss, hss⟩ : ∃ ss, ss = flatc L S r c := ⟨_, rfl⟩
          rw [← hss] at hst hI hlen
          have hlen' : ss.length ≤ 1099512676352 := by omega
          have HST : Hid (flatc L S r (c + 1) = ss ++ [str]) := hst
          clear hst hss hlen hstr hc2 e2 hc
          go_wp2_with (at_builtin; refine wpList_append_own _ rfl _ _ 26 rfl w.heap.size 9 i0 (.string ⟨#[]⟩) 1 16 Try.underlying26 hi hz0 hz1 hz2 rfl (by decide) _ _ _ rfl (hI.own.alloc _) ⟨wr.heap.size, 0, none⟩ 1 1 [.string str] rfl rfl ?c1 ?c2 ?c3 ?c4 ?c5 ?_)
          case c1 =>
            intro j u hj
            match j, hj with
            | 0, hj => simp at hj; subst hj; simp [Addr.add]
          case c2 => intro u hu; simp at hu; subst hu; rfl
          case c3 => unfold maxLen; omega
          case c4 => omega
          case c5 => have := hI.below.size; simp; omega
          intro v' w1 hown' hgrow _
          have R := hI.next hown' hgrow
          rw [← HST.out] at R
          clear hown' hgrow hI HST
          go_wp2_with fail
          go_roundg (L r - (c + 1))
          case measure => omega
          case rel => exact ⟨c + 1, by omega, rfl, by go_num, R⟩
        · obtain rfl : c = L r := by omega
          rw [flatc_full] at hI
          go_wp2_with fail
          go_roundg (n - (r + 1))
          case measure => omega
          case rel => exact ⟨r + 1, by omega, rfl, by go_num, hI⟩
    · obtain rfl : r = n := by omega
      go_wp2_with fail
      go_ret
      exact ⟨_, rfl, hO⟩

end Go.Proofs.Qxb6618050a
