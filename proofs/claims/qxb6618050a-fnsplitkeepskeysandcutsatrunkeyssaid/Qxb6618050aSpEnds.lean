/-
  Statement 1: function 12, runEnds.
-/
import Derived.Test.Qxb6618050aSpFlat
namespace Go.Proofs.Qxb6618050a
open Go.RowKit Go.Deep

theorem Try.info3 : (Try.prog.info? 3).map (fun i => (i.zero, i.size, i.bytes)) = some (some (.int .i64 0), 1, 8) := by kernel_rfl

/-- The sum of the first j lengths. -/
def pre (L : Nat → Nat) : Nat → Nat
  | 0 => 0
  | j + 1 => pre L j + L j

theorem pre_le {L : Nat → Nat} {n : Nat} (h : ∀ j, j < n → L j ≤ 1048576) : ∀ j, j ≤ n → pre L j ≤ j * 1048576
  | 0, _ => by simp [pre]
  | j + 1, hj => by
    have := pre_le h j (by omega)
    have := h j (by omega)
    simp [pre]; omega

/-- Where the first j runs end. -/
def ends (L : Nat → Nat) : Nat → List Int
  | 0 => []
  | j + 1 => ends L j ++ [(pre L (j + 1) : Int)]

theorem ends_length (L : Nat → Nat) : ∀ j, (ends L j).length = j
  | 0 => rfl
  | j + 1 => by simp [ends, ends_length L j]

/-- v owns the numbers zs in wr; below block B nothing of w has turned. -/
structure OwnInts (B : Nat) (w wr : World) (v : Value) (zs : List Int) : Prop where
  below : Below B w wr
  size : B ≤ wr.heap.size
  own : wr.ownsRow B 3 1 v zs.length (zs.map (Value.int .i64))

theorem OwnInts.next {B : Nat} {w wr w1 : World} {v v' : Value} {zs : List Int} {z : Int} (h : OwnInts B w wr v zs) (h1 : w1.ownsRow B 3 1 v' (zs.length + 1) (zs.map (Value.int .i64) ++ [.int .i64 z]))
    (hg : (wr.alloc (.cells #[.int .i64 z] 3)).grownBy w1 v.ownBlock) : OwnInts B w w1 v' (zs ++ [z]) :=
  ⟨(h.below.alloc h.size _).grown hg (by have := h.size; simp; omega) (fun k hk => (h.own.lt k hk).1), by have := hg.size; have := h.size; simp at *; omega, by simpa using h1⟩

set_option maxRecDepth 100000 in
set_option maxHeartbeats 1000000 in
theorem runEnds_any (w : World) (B : Nat) (ao : Option Addr) (n cp : Nat) (A : Nat → Option Addr) (L C : Nat → Nat) (V : Nat → Nat → Value)
    (hg : Grid w B ao n A L C V) (hB : B ≤ w.heap.size) (hn : n ≤ 1048577) (hL : Hid (∀ j, j < n → L j ≤ 1048576)) :
    Calls Try.prog 12 #[.slice ao n cp] w fun e w' => ∃ v, e = .returned v ∧ OwnInts w.heap.size w w' v (ends L n) := by
  obtain ⟨i0, hi, hz0, hz1, hz2⟩ := info_parts Try.info3
  go_enter Try.func12, Try.ntmps12
  go_wp2_with (at_make; refine wpList_make_own _ rfl _ _ 33 rfl w.heap.size 3 i0 (.int .i64 0) 1 Try.underlying33 hi hz0 hz1 _ _ _ n rfl rfl rfl (by rw [hz2]; omega) (by unfold maxLen; omega) (Nat.le_refl _) ?_)
  intro w1 hown hgr
  have h0 : OwnInts w.heap.size w w1 (.slice (some ⟨w.heap.size, 0, none⟩) 0 n) (ends L 0) := ⟨(Below.refl _ _).grown hgr (Nat.le_refl _) (fun k hk => by cases hk), hgr.size, hown⟩
  clear hown hgr
  go_wp2_with fail
  go_loopg [3, 4, 5] n (fun g v s i wr => ∃ r : Nat, r ≤ n ∧ g = n - r ∧ i = .int .i64 r ∧ s = .int .i64 (pre L r) ∧ OwnInts w.heap.size w wr v (ends L r))
  case atStart => exact ⟨0, Nat.zero_le _, rfl, rfl, rfl, h0⟩
  case round =>
    obtain ⟨r, hr, rfl, rfl, rfl, hI⟩ := hrel
    clear h0
    by_cases hlt : r < n
    · have hfl := pre_le hL.out r (by omega)
      obtain ⟨b, o, rfl, hb, hc⟩ := hg.row r hlt
      have hLr := hL.out r hlt
      have g1 : wr.cell? ⟨b, o + r, none⟩ = some (.slice (A r) (L r) (C r)) := by rw [hI.below.cell (p := ⟨b, o + r, none⟩) (by exact Nat.lt_of_lt_of_le hb hB)]; exact hc
      have hlen := ends_length L r
      obtain ⟨zs, hzs⟩ : ∃ zs, zs = ends L r := ⟨_, rfl⟩
      have HST : Hid (ends L (r + 1) = zs ++ [(pre L r : Int) + (L r : Int)]) := by show ends L (r + 1) = _; rw [hzs]; simp [ends, pre]
      rw [← hzs] at hI hlen
      have hlen' : zs.length ≤ 1048577 := by omega
      clear hzs hc hlen
      go_wp2_with (at_builtin; refine wpList_append_own _ rfl _ _ 33 rfl w.heap.size 3 i0 (.int .i64 0) 1 8 Try.underlying33 hi hz0 hz1 hz2 rfl (by decide) _ _ _ rfl (hI.own.alloc _) ⟨wr.heap.size, 0, none⟩ 1 1 [.int .i64 ((pre L r : Int) + (L r : Int))] rfl rfl ?c1 ?c2 ?c3 ?c4 ?c5 ?_)
      case c1 =>
        intro j u hj
        match j, hj with
        | 0, hj => simp at hj; subst hj; simp [Addr.add]
      case c2 => intro u hu; simp at hu; subst hu; rfl
      case c3 => unfold maxLen; omega
      case c4 => omega
      case c5 => have := hI.size; simp; omega
      intro v' w2 hown' hgrow _
      have R := hI.next hown' hgrow
      rw [← HST.out] at R
      clear hown' hgrow hI HST
      go_wp2_with fail
      go_roundg (n - (r + 1))
      case measure => omega
      case rel => exact ⟨r + 1, by omega, rfl, by go_num, by simp only [pre]; go_num, R⟩
    · obtain rfl : r = n := by omega
      go_wp2_with fail
      go_ret
      exact ⟨_, rfl, hI⟩

end Go.Proofs.Qxb6618050a
