/-
  Statement 1: function 8, ZZSplit.
-/
import Derived.Test.Qxb6618050aSpSplit
namespace Go.Proofs.Qxb6618050a
open Go.RowKit Go.Deep

/-- Cell m of the runs laid out of three parallel slices. -/
def runCell (K E B : Nat → Value) (m : Nat) : Value := if m % 3 = 0 then K (m / 3) else if m % 3 = 1 then E (m / 3) else B (m / 3)
theorem runCell_k (K E B : Nat → Value) (j : Nat) : runCell K E B (3 * j) = K j := by
  have h1 : 3 * j % 3 = 0 := by omega
  have h2 : 3 * j / 3 = j := by omega
  simp [runCell, h1, h2]
theorem runCell_e (K E B : Nat → Value) (j : Nat) : runCell K E B (3 * j + 1) = E j := by
  have h1 : (3 * j + 1) % 3 = 1 := by omega
  have h2 : (3 * j + 1) / 3 = j := by omega
  simp [runCell, h1, h2]
theorem runCell_b (K E B : Nat → Value) (j : Nat) : runCell K E B (3 * j + 2) = B j := by
  have h1 : (3 * j + 2) % 3 = 2 := by omega
  have h2 : (3 * j + 2) / 3 = j := by omega
  simp [runCell, h1, h2]

def topCell (br n : Nat) (first : Int) (root : ByteArray) : Nat → Value := fun m => if m = 0 then .slice (some ⟨br, 0, none⟩) n n else if m = 1 then .int .i64 first else .string root

/-- j runs are laid. -/
structure Fill (w wr : World) (n : Nat) (first : Int) (root : ByteArray) (f : Nat → Value) (j : Nat) : Prop where
  below : Below w.heap.size w wr
  size : wr.heap.size = w.heap.size + 2
  runs : wr.rowIs w.heap.size 43 (3 * n) (fun m => if m < 3 * j then f m else .slice none 0 0)
  top : wr.rowIs (w.heap.size + 1) 41 3 (topCell w.heap.size n first root)

theorem fill_start (w : World) (n : Nat) (first : Int) (root : ByteArray) (f : Nat → Value) :
    Fill w ((w.alloc (.cells (madeCells #[.slice none 0 0, .slice none 0 0, .slice none 0 0] (n * 3)) 43)).alloc (.cells #[.slice (some ⟨w.heap.size, 0, none⟩) n n, .int .i64 first, .string root] 41)) n first root f 0 := by
  have h1 : (w.alloc (.cells (madeCells #[.slice none 0 0, .slice none 0 0, .slice none 0 0] (n * 3)) 43)).rowIs w.heap.size 43 (3 * n) (fun _ => .slice none 0 0) :=
    ⟨_, blk_alloc_new _ _, by rw [size_madeCells]; omega, fun m hm => by
      have hm' : m < n * 3 := by omega
      have h3 : m % 3 < 3 := Nat.mod_lt _ (by decide)
      simp only [madeCells, Array.getElem?_map, Array.getElem?_range, hm', if_true, Option.map_some]
      obtain h | h | h : m % 3 = 0 ∨ m % 3 = 1 ∨ m % 3 = 2 := by omega
      all_goals simp [h]⟩
  have h2 := World.rowIs_alloc (w.alloc (.cells (madeCells #[.slice none 0 0, .slice none 0 0, .slice none 0 0] (n * 3)) 43)) #[.slice (some ⟨w.heap.size, 0, none⟩) n n, .int .i64 first, .string root] 41 (topCell w.heap.size n first root) (fun m hm => by
    match m, hm with
    | 0, _ => rfl
    | 1, _ => rfl
    | 2, _ => rfl)
  rw [nblk_alloc] at h2
  exact ⟨((Below.refl _ _).alloc (Nat.le_refl _) _).alloc (by rw [nblk_alloc]; omega) _, by rw [nblk_alloc, nblk_alloc], (h1.alloc _).congr (fun m _ => by simp), h2⟩

theorem fill_step {w wr : World} {n : Nat} {first : Int} {root : ByteArray} {K E B : Nat → Value} {j : Nat} (h : Fill w wr n first root (runCell K E B) j) :
    Fill w (((wr.setCell ⟨w.heap.size, j * 3, none⟩ (K j)).setCell ⟨w.heap.size, j * 3 + 1, none⟩ (E j)).setCell ⟨w.heap.size, j * 3 + 2, none⟩ (B j)).drew n first root (runCell K E B) (j + 1) := by
  refine ⟨(((h.below.setCell (Nat.le_refl _) _).setCell (Nat.le_refl _) _).setCell (Nat.le_refl _) _).drew, ?_, ?_, ?_⟩
  · show (((wr.setCell _ _).setCell _ _).setCell _ _).heap.size = _
    rw [nblk_setCell, nblk_setCell, nblk_setCell, h.size]
  · refine (((h.runs.set (j * 3) (K j)).set (j * 3 + 1) (E j)).set (j * 3 + 2) (B j)).drew.congr (fun m _ => ?_)
    by_cases c1 : m = j * 3 + 2
    · rw [if_pos c1, if_pos (by omega), c1, Nat.mul_comm, runCell_b]
    rw [if_neg c1]
    by_cases c2 : m = j * 3 + 1
    · rw [if_pos c2, if_pos (by omega), c2, Nat.mul_comm, runCell_e]
    rw [if_neg c2]
    by_cases c3 : m = j * 3
    · rw [if_pos c3, if_pos (by omega), c3, Nat.mul_comm, runCell_k]
    rw [if_neg c3]
    by_cases c4 : m < 3 * j
    · rw [if_pos c4, if_pos (by omega)]
    · rw [if_neg c4, if_neg (by omega)]
  · exact (((h.top.setOther (a := ⟨w.heap.size, j * 3, none⟩) (by show w.heap.size + 1 ≠ w.heap.size; omega) _).setOther (a := ⟨w.heap.size, j * 3 + 1, none⟩) (by show w.heap.size + 1 ≠ w.heap.size; omega) _).setOther (a := ⟨w.heap.size, j * 3 + 2, none⟩) (by show w.heap.size + 1 ≠ w.heap.size; omega) _).drew

theorem fill_done {w wr : World} {n : Nat} {first : Int} {root : ByteArray} {f : Nat → Value} (h : Fill w wr n first root f n) : wr.rowIs w.heap.size 43 (3 * n) f :=
  h.runs.congr (fun m hm => by rw [if_pos hm])

/-- j of the runs are handed out; M: the heap's size when the three slices were made. -/
structure Out (w wr : World) (n : Nat) (c : Nat → Value) (j : Nat) : Prop where
  below : Below w.heap.size w wr
  size : wr.heap.size = w.heap.size + 3
  k : wr.rowIs w.heap.size 26 n (fun x => if x < j then c (3 * x) else .slice none 0 0)
  e : wr.rowIs (w.heap.size + 1) 36 n (fun x => if x < j then c (3 * x + 1) else .slice none 0 0)
  b : wr.rowIs (w.heap.size + 2) 36 n (fun x => if x < j then c (3 * x + 2) else .slice none 0 0)

theorem out_start (w : World) (n : Nat) (c : Nat → Value) :
    Out w (((w.alloc (.cells (madeCells #[.slice none 0 0] n) 26)).alloc (.cells (madeCells #[.slice none 0 0] n) 36)).alloc (.cells (madeCells #[.slice none 0 0] n) 36)) n c 0 := by
  have h1 := World.rowIs_made w (.slice none 0 0) n 26
  have h2 := World.rowIs_made (w.alloc (.cells (madeCells #[.slice none 0 0] n) 26)) (.slice none 0 0) n 36
  have h3 := World.rowIs_made ((w.alloc (.cells (madeCells #[.slice none 0 0] n) 26)).alloc (.cells (madeCells #[.slice none 0 0] n) 36)) (.slice none 0 0) n 36
  rw [nblk_alloc] at h2
  rw [nblk_alloc, nblk_alloc] at h3
  exact ⟨(((Below.refl _ _).alloc (Nat.le_refl _) _).alloc (by rw [nblk_alloc]; omega) _).alloc (by rw [nblk_alloc, nblk_alloc]; omega) _, by rw [nblk_alloc, nblk_alloc, nblk_alloc],
    ((h1.alloc _).alloc _).congr (fun m _ => by simp), (h2.alloc _).congr (fun m _ => by simp), h3.congr (fun m _ => by simp)⟩

theorem out_step {w wr : World} {n : Nat} {c : Nat → Value} {j : Nat} (h : Out w wr n c j) :
    Out w (((wr.setCell ⟨w.heap.size, j, none⟩ (c (3 * j))).setCell ⟨w.heap.size + 1, j, none⟩ (c (3 * j + 1))).setCell ⟨w.heap.size + 2, j, none⟩ (c (3 * j + 2))) n c (j + 1) := by
  have key : ∀ (v : Nat → Value) x, (if x = j then v j else if x < j then v x else Value.slice none 0 0) = if x < j + 1 then v x else .slice none 0 0 := by
    intro v x
    by_cases e : x = j
    · subst e; rw [if_pos rfl, if_pos (by omega)]
    · rw [if_neg e]
      by_cases hlt : x < j
      · rw [if_pos hlt, if_pos (by omega)]
      · rw [if_neg hlt, if_neg (by omega)]
  refine ⟨((h.below.setCell (Nat.le_refl _) _).setCell (by show w.heap.size ≤ w.heap.size + 1; omega) _).setCell (by show w.heap.size ≤ w.heap.size + 2; omega) _, by rw [nblk_setCell, nblk_setCell, nblk_setCell, h.size], ?_, ?_, ?_⟩
  · exact (((h.k.set j _).setOther (by show w.heap.size ≠ w.heap.size + 1; omega) _).setOther (by show w.heap.size ≠ w.heap.size + 2; omega) _).congr (fun x _ => key (fun x => c (3 * x)) x)
  · exact (((h.e.setOther (by show w.heap.size + 1 ≠ w.heap.size; omega) _).set j _).setOther (by show w.heap.size + 1 ≠ w.heap.size + 2; omega) _).congr (fun x _ => key (fun x => c (3 * x + 1)) x)
  · exact (((h.b.setOther (by show w.heap.size + 2 ≠ w.heap.size; omega) _).setOther (by show w.heap.size + 2 ≠ w.heap.size + 1; omega) _).set j _).congr (fun x _ => key (fun x => c (3 * x + 2)) x)

end Go.Proofs.Qxb6618050a
