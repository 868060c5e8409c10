/-
  Statement 3: functions 12 and 13, cloneSteps and toSchedule.
-/
import Derived.Test.Qxb6619576aFmtSkStep
import Derived.BigRegion
namespace Go.Proofs.Qxb6619576aFmt
open Go.RowKit Go.Extern.Stop Go.Stop Go.Extern Go.Deep
attribute [local go_sem] run_store_float

theorem Tryf.info42 : (Tryf.prog.info? 42).map (fun i => (i.zero, i.size, i.bytes)) = some (some (.agg #[.int .i64 0, .float .f64 0]), 2, 16) := by kernel_rfl
theorem Tryf.info54 : (Tryf.prog.info? 54).map (fun i => (i.zero, i.size, i.bytes)) = some (some (.agg #[.int .i64 0, .float .f64 0]), 2, 16) := by kernel_rfl

theorem run_make_two (t e : TypeId) (ht : Tryf.prog.underlying t = some (.slice e)) (hi : (Tryf.prog.info? e).map (fun i => (i.zero, i.size, i.bytes)) = some (some (.agg #[.int .i64 0, .float .f64 0]), 2, 16)) (n : Nat) (hn : n ≤ 1048576) (W : World) :
    (Instr.makeSlice t (.int .i64 (n : Int)) (.int .i64 (n : Int))).run Tryf.prog W = .ok (.slice (some ⟨W.heap.size, 0, none⟩) n n) (W.alloc (.cells (madeCells #[.int .i64 0, .float .f64 0] (n * 2)) e)) := by
  obtain ⟨i, h1, h2, h3, h4⟩ := info_parts hi
  have h := run_make (P := Tryf.prog) W t e i _ ht h1 h2 .i64 .i64 (n : Int) (n : Int) (by omega) (Int.le_refl _) (by rw [h4]; omega) (by omega)
  rw [h3] at h
  exact h

/-- Cell m of the steps; of steps not yet laid. -/
def stepCell (D : Nat → Int) (F : Nat → Nat) (m : Nat) : Value := if m % 2 = 0 then .int .i64 (D (m / 2)) else .float .f64 (F (m / 2))
def zeroCell (m : Nat) : Value := if m % 2 = 0 then .int .i64 0 else .float .f64 0
theorem stepCell_day (D : Nat → Int) (F : Nat → Nat) (j : Nat) : stepCell D F (j * 2) = .int .i64 (D j) := by
  have h1 : j * 2 % 2 = 0 := by omega
  have h2 : j * 2 / 2 = j := by omega
  simp [stepCell, h1, h2]
theorem stepCell_share (D : Nat → Int) (F : Nat → Nat) (j : Nat) : stepCell D F (j * 2 + 1) = .float .f64 (F j) := by
  have h1 : (j * 2 + 1) % 2 = 1 := by omega
  have h2 : (j * 2 + 1) / 2 = j := by omega
  simp [stepCell, h1, h2]

/-- j steps are laid in the new row. -/
structure Laid (w wr : World) (T : TypeId) (n : Nat) (D : Nat → Int) (F : Nat → Nat) (j : Nat) : Prop where
  below : Below w.heap.size w wr
  row : wr.rowIs w.heap.size T (n * 2) (fun m => if m < j * 2 then stepCell D F m else zeroCell m)

theorem laid_start (w : World) (T : TypeId) (n : Nat) (D : Nat → Int) (F : Nat → Nat) : Laid w (w.alloc (.cells (madeCells #[.int .i64 0, .float .f64 0] (n * 2)) T)) T n D F 0 :=
  ⟨(Below.refl _ _).alloc (Nat.le_refl _) _, ⟨_, blk_alloc_new _ _, size_madeCells _ _, fun m hm => by
    simp only [madeCells, Array.getElem?_map, Array.getElem?_range, hm, if_true, Option.map_some, zeroCell]
    obtain h | h : m % 2 = 0 ∨ m % 2 = 1 := by omega
    all_goals simp [h]⟩⟩

theorem laid_step {w wr : World} {T : TypeId} {n : Nat} {D : Nat → Int} {F : Nat → Nat} {j : Nat} (h : Laid w wr T n D F j) :
    Laid w ((wr.setCell ⟨w.heap.size, j * 2, none⟩ (.int .i64 (D j))).setCell ⟨w.heap.size, j * 2 + 1, none⟩ (.float .f64 (F j))) T n D F (j + 1) := by
  refine ⟨(h.below.setCell (Nat.le_refl _) _).setCell (Nat.le_refl _) _, ((h.row.set (j * 2) _).set (j * 2 + 1) _).congr (fun m _ => ?_)⟩
  by_cases c1 : m = j * 2 + 1
  · rw [if_pos c1, if_pos (by omega), c1, stepCell_share]
  rw [if_neg c1]
  by_cases c2 : m = j * 2
  · rw [if_pos c2, if_pos (by omega), c2, stepCell_day]
  rw [if_neg c2]
  by_cases c3 : m < j * 2
  · rw [if_pos c3, if_pos (by omega)]
  · rw [if_neg c3, if_neg (by omega)]

theorem Laid.draws {w wr : World} {T : TypeId} {n : Nat} {D : Nat → Int} {F : Nat → Nat} {j : Nat} (h : Laid w wr T n D F j) : Laid w wr.drew T n D F j := ⟨h.below.drew, h.row.drew⟩

theorem laid_done {w wr : World} {T : TypeId} {n : Nat} {D : Nat → Int} {F : Nat → Nat} (h : Laid w wr T n D F n) : Steps wr w.heap.size 0 n D F :=
  ⟨h.row.lt, fun k hk => by
    rw [Nat.zero_add, h.row.cell (by omega), if_pos (by omega), stepCell_day],
   fun k hk => by
    rw [Nat.zero_add, h.row.cell (by omega), if_pos (by omega), stepCell_share]⟩

set_option maxRecDepth 100000 in
set_option maxHeartbeats 1000000 in
theorem clone_any (w : World) (b o n cp : Nat) (D : Nat → Int) (F : Nat → Nat) (h : Steps w b o n D F) (hn2 : n ≤ 1048576) :
    Calls Tryf.prog 12 #[.slice (some ⟨b, o, none⟩) n cp] w fun e w' => e = .returned (.slice (some ⟨w.heap.size, 0, none⟩) n n) ∧ Below w.heap.size w w' ∧ Steps w' w.heap.size 0 n D F := by
  have he := fun w a n c n' c' => Lib.run_eql_slice_nil (P := Tryf.prog) w 38 42 a n c n' c' Tryf.underlying38
  have hmk := run_make_two 38 42 Tryf.underlying38 Tryf.info42 n hn2
  have hblt := h.lt
  go_enter Tryf.func12, Tryf.ntmps12
  go_wp2_with fail
  clear hmk
  go_loopg [4] n (fun g i wr => ∃ j : Nat, j ≤ n ∧ g = n - j ∧ i = .int .i64 j ∧ Laid w wr 42 n D F j)
  case atStart => exact ⟨0, Nat.zero_le _, rfl, rfl, laid_start w 42 n D F⟩
  case round =>
    obtain ⟨j, hj, rfl, rfl, hL⟩ := hrel
    by_cases hlt : j < n
    · have c0 : wr.cell? ⟨b, o + j * 2, none⟩ = some (.int .i64 (D j)) := by rw [hL.below.cell (p := ⟨b, o + j * 2, none⟩) hblt]; exact h.day j hlt
      have c1 : wr.cell? ⟨b, o + j * 2 + 1, none⟩ = some (.float .f64 (F j)) := by rw [hL.below.cell (p := ⟨b, o + j * 2 + 1, none⟩) hblt]; exact h.share j hlt
      have c2 := hL.row.cell (i := j * 2) (by omega)
      have c3 := hL.row.cell (i := j * 2 + 1) (by omega)
      rw [if_neg (by omega)] at c2 c3
      have c4 := hL.row.frozen (j * 2)
      have c5 := hL.row.frozen (j * 2 + 1)
      have hL' := laid_step hL
      clear hL
      go_wp2_with fail
      go_roundg (n - (j + 1))
      case measure => omega
      case rel => exact ⟨j + 1, by omega, rfl, by go_num, hL'⟩
    · obtain rfl : n = j := by omega
      go_wp2_with fail
      go_ret
      exact ⟨rfl, hL.below, laid_done hL⟩

set_option maxRecDepth 100000 in
set_option maxHeartbeats 1000000 in
theorem sched_any (w : World) (b o n cp : Nat) (D : Nat → Int) (F : Nat → Nat) (h : Steps w b o n D F) (hn2 : n ≤ 1048576) :
    Calls Tryf.prog 13 #[.slice (some ⟨b, o, none⟩) n cp] w fun e w' => e = .returned (.slice (some ⟨w.heap.size, 0, none⟩) n n) ∧ Below w.heap.size w w' ∧ Steps w' w.heap.size 0 n D F := by
  have he := fun w a n c n' c' => Lib.run_eql_slice_nil (P := Tryf.prog) w 38 42 a n c n' c' Tryf.underlying38
  have hmk := run_make_two 44 54 Tryf.underlying44 Tryf.info54 n hn2
  have hblt := h.lt
  go_enter Tryf.func13, Tryf.ntmps13
  go_wp2_with fail
  clear hmk
  go_loopg [4] n (fun g i wr => ∃ j : Nat, j ≤ n ∧ g = n - j ∧ i = .int .i64 j ∧ Laid w wr 54 n D F j)
  case atStart => exact ⟨0, Nat.zero_le _, rfl, rfl, laid_start w 54 n D F⟩
  case round =>
    obtain ⟨j, hj, rfl, rfl, hL⟩ := hrel
    by_cases hlt : j < n
    · have c0 : wr.cell? ⟨b, o + j * 2, none⟩ = some (.int .i64 (D j)) := by rw [hL.below.cell (p := ⟨b, o + j * 2, none⟩) hblt]; exact h.day j hlt
      have c1 : wr.cell? ⟨b, o + j * 2 + 1, none⟩ = some (.float .f64 (F j)) := by rw [hL.below.cell (p := ⟨b, o + j * 2 + 1, none⟩) hblt]; exact h.share j hlt
      have c2 := hL.row.cell (i := j * 2) (by omega)
      have c3 := hL.row.cell (i := j * 2 + 1) (by omega)
      rw [if_neg (by omega)] at c2 c3
      have c4 := hL.row.frozen (j * 2)
      have c5 := hL.row.frozen (j * 2 + 1)
      have hL' := (laid_step hL).draws
      clear hL
      go_wp2_with fail
      go_big_region
      all_goals
        go_wp2_with fail
        go_roundg (n - (j + 1))
        case measure => omega
        case rel => exact ⟨j + 1, by omega, rfl, by go_num, hL'⟩
    · obtain rfl : n = j := by omega
      go_wp2_with fail
      go_ret
      exact ⟨rfl, hL.below, laid_done hL⟩

end Go.Proofs.Qxb6619576aFmt
