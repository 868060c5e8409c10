/-
  Statement 1: what a deep copy of a slice of slices leaves in memory (no walk).
-/
import Derived.Test.Qxb6618050aSpBase
namespace Go.Proofs.Qxb6618050a
open Go.RowKit Go.Deep

/-- How many of the first j rows are not nil. -/
def cnt (A : Nat → Option Addr) : Nat → Nat
  | 0 => 0
  | j + 1 => cnt A j + (if (A j).isSome then 1 else 0)

theorem cnt_some {A : Nat → Option Addr} {j : Nat} (h : (A j).isSome = true) : cnt A (j + 1) = cnt A j + 1 := by simp [cnt, h]
theorem cnt_none {A : Nat → Option Addr} {j : Nat} (h : A j = none) : cnt A (j + 1) = cnt A j := by simp [cnt, h]
theorem cnt_mono (A : Nat → Option Addr) {j k : Nat} (h : j ≤ k) : cnt A j ≤ cnt A k := by
  induction k with
  | zero => obtain rfl : j = 0 := by omega
            exact Nat.le_refl _
  | succ k ih =>
    by_cases e : j = k + 1
    · subst e; exact Nat.le_refl _
    · have := ih (by omega)
      simp only [cnt]
      omega
theorem cnt_lt {A : Nat → Option Addr} {j k : Nat} (h : j < k) (hs : (A j).isSome = true) : cnt A j < cnt A k := by
  have h1 := cnt_some hs
  have h2 := cnt_mono A (show j + 1 ≤ k by omega)
  omega

/-- Where the copy's row j lies; N: the copy's own row of rows. -/
def cloneA (A : Nat → Option Addr) (N : Nat) : Nat → Option Addr := fun j => if (A j).isSome then some ⟨N + 1 + cnt A j, 0, none⟩ else none
theorem cloneA_some {A : Nat → Option Addr} {N j : Nat} (h : (A j).isSome = true) : cloneA A N j = some ⟨N + 1 + cnt A j, 0, none⟩ := by simp [cloneA, h]
theorem cloneA_none {A : Nat → Option Addr} {N j : Nat} (h : A j = none) : cloneA A N j = none := by simp [cloneA, h]

/-- The copy's own row of rows, when r of them are made. -/
def top (N : Nat) (A : Nat → Option Addr) (L : Nat → Nat) (r : Nat) : Nat → Value := fun j => if j < r then .slice (cloneA A N j) (L j) (L j) else .slice none 0 0

structure Outer (w wr : World) (T E : TypeId) (n : Nat) (A : Nat → Option Addr) (L : Nat → Nat) (V : Nat → Nat → Value) (r : Nat) : Prop where
  since : Below w.heap.size w wr
  size : wr.heap.size = w.heap.size + 1 + cnt A r
  top : wr.rowIs w.heap.size T n (top w.heap.size A L r)
  done : ∀ j, j < r → (A j).isSome = true → wr.rowIs (w.heap.size + 1 + cnt A j) E (L j) (V j)

structure Inner (w wi : World) (T E : TypeId) (z : Value) (n : Nat) (A : Nat → Option Addr) (L : Nat → Nat) (V : Nat → Nat → Value) (r c : Nat) : Prop where
  since : Below w.heap.size w wi
  size : wi.heap.size = w.heap.size + 1 + cnt A r + 1
  top : wi.rowIs w.heap.size T n (Qxb6618050a.top w.heap.size A L r)
  done : ∀ j, j < r → (A j).isSome = true → wi.rowIs (w.heap.size + 1 + cnt A j) E (L j) (V j)
  cur : wi.rowIs (w.heap.size + 1 + cnt A r) E (L r) (fun i => if i < c then V r i else z)

variable {w wr wi : World} {T E : TypeId} {z : Value} {n : Nat} {A : Nat → Option Addr} {L : Nat → Nat} {V : Nat → Nat → Value} {r c : Nat}

theorem outer_start (w : World) (T E : TypeId) (n : Nat) (A : Nat → Option Addr) (L : Nat → Nat) (V : Nat → Nat → Value) : Outer w (w.alloc (.cells (madeCells #[.slice none 0 0] n) T)) T E n A L V 0 :=
  ⟨(Below.refl _ _).alloc (Nat.le_refl _) _, by simp [cnt], (World.rowIs_made w _ n T).congr (fun j _ => by simp [Qxb6618050a.top]), fun j hj => absurd hj (Nat.not_lt_zero _)⟩

theorem outer_nil (h : Outer w wr T E n A L V r) (hA : A r = none) (hL : L r = 0) : Outer w wr T E n A L V (r + 1) :=
  ⟨h.since, by rw [h.size, cnt_none hA], h.top.congr (fun j _ => by
    simp only [Qxb6618050a.top]
    by_cases e : j = r
    · subst e; simp [cloneA_none hA, hL]
    · by_cases hlt : j < r
      · rw [if_pos hlt, if_pos (by omega)]
      · rw [if_neg hlt, if_neg (by omega)]),
   fun j hj hs => h.done j (by
    by_cases e : j = r
    · subst e; rw [hA] at hs; cases hs
    · omega) hs⟩

theorem inner_start (h : Outer w wr T E n A L V r) (z : Value) : Inner w (wr.alloc (.cells (madeCells #[z] (L r)) E)) T E z n A L V r 0 := by
  have hnew := World.rowIs_made wr z (L r) E
  rw [h.size] at hnew
  exact ⟨h.since.alloc (by rw [h.size]; omega) _, by simp [h.size], h.top.alloc _, fun j hj hs => (h.done j hj hs).alloc _, hnew.congr (fun i _ => by simp)⟩

theorem inner_step (h : Inner w wi T E z n A L V r c) : Inner w (wi.setCell ⟨w.heap.size + 1 + cnt A r, c, none⟩ (V r c)) T E z n A L V r (c + 1) := by
  refine ⟨h.since.setCell (by show w.heap.size ≤ w.heap.size + 1 + cnt A r; omega) _, by simp [h.size], h.top.setOther (by show w.heap.size ≠ w.heap.size + 1 + cnt A r; omega) _,
    fun j hj hs => (h.done j hj hs).setOther (by have := cnt_lt hj hs; show w.heap.size + 1 + cnt A j ≠ w.heap.size + 1 + cnt A r; omega) _, (h.cur.set c _).congr (fun i _ => ?_)⟩
  by_cases e : i = c
  · subst e; simp
  · rw [if_neg e]
    by_cases hlt : i < c
    · rw [if_pos hlt, if_pos (by omega)]
    · rw [if_neg hlt, if_neg (by omega)]

theorem inner_done (h : Inner w wi T E z n A L V r (L r)) (hs : (A r).isSome = true) :
    Outer w (wi.setCell ⟨w.heap.size, r, none⟩ (.slice (some ⟨w.heap.size + 1 + cnt A r, 0, none⟩) (L r) (L r))) T E n A L V (r + 1) := by
  refine ⟨h.since.setCell (Nat.le_refl _) _, by rw [nblk_setCell, h.size, cnt_some hs]; omega, (h.top.set r _).congr (fun j _ => ?_), fun j hj hs' => ?_⟩
  · simp only [Qxb6618050a.top]
    by_cases e : j = r
    · subst e; simp [cloneA_some hs]
    · rw [if_neg e]
      by_cases hlt : j < r
      · rw [if_pos hlt, if_pos (by omega)]
      · rw [if_neg hlt, if_neg (by omega)]
  · by_cases e : j = r
    · subst e
      exact (h.cur.congr (fun i hi => by rw [if_pos hi])).setOther (by show w.heap.size + 1 + cnt A j ≠ w.heap.size; omega) _
    · exact (h.done j (by omega) hs').setOther (by show w.heap.size + 1 + cnt A j ≠ w.heap.size; omega) _

/-- The copy, read as a grid. -/
theorem Outer.grid {B : Nat} {ao : Option Addr} {C : Nat → Nat} {w0 : World} (h : Outer w wr T E n A L V n) (hg : Grid w0 B ao n A L C V) : Grid wr wr.heap.size (some ⟨w.heap.size, 0, none⟩) n (cloneA A w.heap.size) L L V :=
  ⟨fun j hj => ⟨_, 0, rfl, h.top.lt, by
    have := h.top.cell hj
    simp only [Qxb6618050a.top, hj, if_true] at this
    simpa using this⟩,
   fun j hj k hk => by
    obtain ⟨b, o, e, _, _⟩ := hg.elt j hj k hk
    have hs : (A j).isSome = true := by rw [e]; rfl
    exact ⟨_, 0, cloneA_some hs, (h.done j hj hs).lt, by simpa using (h.done j hj hs).cell hk⟩,
   fun j hj hn => by
    have hA : A j = none := by
      cases e : A j with
      | none => rfl
      | some a => rw [cloneA_some (by rw [e]; rfl)] at hn; cases hn
    exact ⟨(hg.nil j hj hA).1, (hg.nil j hj hA).1⟩,
   hg.len⟩

end Go.Proofs.Qxb6618050a
