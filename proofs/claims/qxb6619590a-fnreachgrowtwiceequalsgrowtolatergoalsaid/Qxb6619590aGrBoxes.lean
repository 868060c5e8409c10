/-
  Statements 4 and 5: a store into one of the law's boxes.
-/
import Derived.Test.Qxb6619590aGrEnv
namespace Go.Proofs.Qxb6619590a
open Go.RowKit Go.Deep Go.Maps

theorem row_past {w : World} {b t n : Nat} {f : Nat → Value} (h : w.rowIs b t n f) {i : Nat} (hi : n ≤ i) : w.cell? ⟨b, i, none⟩ = none := by
  obtain ⟨c, hb, hn, _⟩ := h
  simp [World.cell?, hb, Array.getElem?_eq_none (by omega : c.size ≤ i)]

theorem Ints.setBox {w : World} {G : Nat → Prop} {ao : Option Addr} {n : Nat} {f : Nat → Int} (h : Ints w G ao n f) {H : Nat} {a0 a1 : Option Addr} {l0 c0 l1 c1 : Nat} (hr : w.rowIs H 30 2 (two (.slice a0 l0 c0) (.slice a1 l1 c1))) (i : Nat) (v : Value) : Ints (w.setCell ⟨H, i, none⟩ v) G ao n f := fun j hj => by
  obtain ⟨b, o, e, hg, hc⟩ := h j hj
  refine ⟨b, o, e, hg, ?_⟩
  have hne : b ≠ H := fun eb => by
    subst eb
    by_cases h2 : o + j < 2
    · rw [hr.cell h2] at hc
      unfold two at hc
      split at hc <;> simp at hc
    · rw [row_past hr (by omega)] at hc
      cases hc
  rw [World.cell?_of_block (w := w) (w' := w.setCell ⟨H, i, none⟩ v) (a := ⟨b, o + j, none⟩) (blk_setCell_other _ _ _ _ hne)]
  exact hc

theorem Sl.setBox {w : World} {ao : Option Addr} {n c : Nat} {f : Nat → Int} (h : Sl w ao n c f) {H : Nat} {a0 a1 : Option Addr} {l0 c0 l1 c1 : Nat} (hr : w.rowIs H 30 2 (two (.slice a0 l0 c0) (.slice a1 l1 c1))) (i : Nat) (v : Value) : Sl (w.setCell ⟨H, i, none⟩ v) ao n c f :=
  ⟨(h.ints.setBox hr i v).mono (fun b hb => by rw [nblk_setCell]; exact hb), h.nil, h.rng⟩

theorem two_0 {w : World} {H : Nat} {x y x' : Value} (h : w.rowIs H 30 2 (two x y)) : (w.setCell ⟨H, 0, none⟩ x').rowIs H 30 2 (two x' y) :=
  (h.set 0 x').congr (fun j hj => by
    match j, hj with
    | 0, _ => rfl
    | 1, _ => rfl)
theorem two_1 {w : World} {H : Nat} {x y y' : Value} (h : w.rowIs H 30 2 (two x y)) : (w.setCell ⟨H, 1, none⟩ y').rowIs H 30 2 (two x y') :=
  (h.set 1 y').congr (fun j hj => by
    match j, hj with
    | 0, _ => rfl
    | 1, _ => rfl)

theorem Env.setF {w W : World} {f0 f1 s0 s1 : Value} (h : Env w W f0 f1 s0 s1) (x y : Value) : Env w ((W.setCell ⟨w.heap.size, 0, none⟩ x).setCell ⟨w.heap.size, 1, none⟩ y) x y s0 s1 :=
  ⟨(h.below.setCell (Nat.le_refl _) _).setCell (Nat.le_refl _) _, two_1 (two_0 h.bf), (h.bs.setOther (a := ⟨w.heap.size, 0, none⟩) (by show w.heap.size + 1 ≠ w.heap.size; omega) _).setOther (a := ⟨w.heap.size, 1, none⟩) (by show w.heap.size + 1 ≠ w.heap.size; omega) _⟩
theorem Env.setS {w W : World} {f0 f1 s0 s1 : Value} (h : Env w W f0 f1 s0 s1) (x y : Value) : Env w ((W.setCell ⟨w.heap.size + 1, 0, none⟩ x).setCell ⟨w.heap.size + 1, 1, none⟩ y) f0 f1 x y :=
  ⟨(h.below.setCell (by show w.heap.size ≤ w.heap.size + 1; omega) _).setCell (by show w.heap.size ≤ w.heap.size + 1; omega) _, (h.bf.setOther (a := ⟨w.heap.size + 1, 0, none⟩) (by show w.heap.size ≠ w.heap.size + 1; omega) _).setOther (a := ⟨w.heap.size + 1, 1, none⟩) (by show w.heap.size ≠ w.heap.size + 1; omega) _, two_1 (two_0 h.bs)⟩

end Go.Proofs.Qxb6619590a
