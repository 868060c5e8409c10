/-
  Statements 4 and 5: growIsBreadthFirst's tables.
-/
import Derived.Test.Qxb6619590aGrOff
namespace Go.Proofs.Qxb6619590a
open Go.RowKit Go.Deep Go.Maps

theorem Try.info4 : (Try.prog.info? 4).map (fun i => (i.zero, i.size, i.bytes)) = some (some (.bool false), 1, 1) := by kernel_rfl
theorem Try.info3 : (Try.prog.info? 3).map (fun i => (i.zero, i.size, i.bytes)) = some (some (.int .i64 0), 1, 8) := by kernel_rfl

theorem below_grown {w w' : World} (h : Below w.heap.size w w') : w.grownBy w' none := ⟨h.os, h.tape, h.output, h.size, fun k hk _ => h.block k hk⟩

theorem RS.below {w w' : World} {g : GA} {br : Nat} {rn : List Nat} {S : Nat → Bool} {wk : Nat} {vn few many : Value} (h : RS w g br rn S wk vn few many) (hb : Below w.heap.size w w') : RS w' g br rn S wk vn few many := by
  have hg := below_grown hb
  refine ⟨h.row.of_block (hb.block br h.row.lt), h.own.kept hg ?_, ?_, h.len, h.lt⟩
  · cases vn.ownBlock with
    | none => exact .inl rfl
    | some b => exact .inr (by simp)
  · have hs := h.set
    revert hs
    generalize cnt (mm rn S) g.n = N
    intro hs
    cases hs with
    | fresh h0 hN => exact .fresh h0 hN
    | few bm D hF hown hD => exact .few bm D hF (hown.kept hg (by simp)) hD
    | many bs hF hrow => exact .many bs hF (hrow.of_block (hb.block bs hrow.lt))

/-- inR and num, p of them laid. -/
structure TabA (w wr : World) (n : Nat) (rn : List Nat) (p : Nat) : Prop where
  below : Below w.heap.size w wr
  inR : wr.rowIs w.heap.size 4 n (fun j => .bool (hh (rn.take p) j))
  num : wr.rowIs (w.heap.size + 1) 21 rn.length (fun j => .int .i32 (if j < p then (rn.getD j 0 : Int) else 0))

theorem tabA_start (w : World) (n : Nat) (rn : List Nat) : TabA w ((w.alloc (.cells (madeCells #[.bool false] n) 4)).alloc (.cells (madeCells #[.int .i32 0] rn.length) 21)) n rn 0 := by
  have h1 := World.rowIs_made w (.bool false) n 4
  have h2 := World.rowIs_made (w.alloc (.cells (madeCells #[.bool false] n) 4)) (.int .i32 0) rn.length 21
  rw [nblk_alloc] at h2
  exact ⟨((Below.refl _ w).alloc (Nat.le_refl _) _).alloc (by rw [nblk_alloc]; omega) _, (h1.alloc _).congr (fun j _ => by simp [hh]), h2.congr (fun j _ => by simp)⟩

theorem tabA_step {w wr : World} {n : Nat} {rn : List Nat} {p : Nat} (h : TabA w wr n rn p) (hp : p < rn.length) :
    TabA w ((wr.setCell ⟨w.heap.size, rn[p], none⟩ (.bool true)).setCell ⟨w.heap.size + 1, p, none⟩ (.int .i32 (rn[p] : Int))) n rn (p + 1) := by
  have e1 : rn.take (p + 1) = rn.take p ++ [rn[p]] := by rw [List.take_append_getElem hp]
  refine ⟨(h.below.setCell (Nat.le_refl _) _).setCell (by show w.heap.size ≤ w.heap.size + 1; omega) _, ((h.inR.set _ _).setOther (a := ⟨w.heap.size + 1, p, none⟩) (by show w.heap.size ≠ w.heap.size + 1; omega) _).congr (fun j _ => ?_), ((h.num.setOther (a := ⟨w.heap.size, rn[p], none⟩) (by show w.heap.size + 1 ≠ w.heap.size; omega) _).set p _).congr (fun j _ => ?_)⟩
  · have e2 : hh (rn.take (p + 1)) j = (hh (rn.take p) j || decide (j = rn[p])) := by rw [e1]; simp only [hh, List.mem_append, List.mem_singleton, Bool.decide_or]
    rw [e2]
    by_cases e : j = rn[p]
    · rw [if_pos e, decide_eq_true e, Bool.or_true]
    · rw [if_neg e, decide_eq_false e, Bool.or_false]
  · by_cases e : j = p
    · subst e
      rw [if_pos rfl, if_pos (by omega), List.getD_eq_getElem?_getD, List.getElem?_eq_getElem hp]
      rfl
    · rw [if_neg e]
      by_cases h : j < p
      · rw [if_pos h, if_pos (by omega)]
      · rw [if_neg h, if_neg (by omega)]

theorem tabA_done {w wr : World} {n : Nat} {rn : List Nat} (h : TabA w wr n rn rn.length) : wr.rowIs w.heap.size 4 n (fun j => .bool (hh rn j)) ∧ wr.rowIs (w.heap.size + 1) 21 rn.length (fun j => .int .i32 (rn.getD j 0 : Int)) :=
  ⟨h.inR.congr (fun j _ => by rw [List.take_length]), h.num.congr (fun j hj => by rw [if_pos hj])⟩

/-- keyed, keyWalker, keyEdge. -/
structure TabB (wA wr : World) (n : Nat) (R : List Nat) (kw ke : Nat → Int) : Prop where
  below : Below wA.heap.size wA wr
  keyed : wr.rowIs wA.heap.size 4 n (fun j => .bool (hh R j))
  kw : wr.rowIs (wA.heap.size + 1) 3 n (fun j => .int .i64 (kw j))
  ke : wr.rowIs (wA.heap.size + 1 + 1) 3 n (fun j => .int .i64 (ke j))

theorem tabB_start (wA : World) (n : Nat) : TabB wA (((wA.alloc (.cells (madeCells #[.bool false] n) 4)).alloc (.cells (madeCells #[.int .i64 0] n) 3)).alloc (.cells (madeCells #[.int .i64 0] n) 3)) n [] (fun _ => 0) (fun _ => 0) := by
  have h1 := World.rowIs_made wA (.bool false) n 4
  have h2 := World.rowIs_made (wA.alloc (.cells (madeCells #[.bool false] n) 4)) (.int .i64 0) n 3
  have h3 := World.rowIs_made ((wA.alloc (.cells (madeCells #[.bool false] n) 4)).alloc (.cells (madeCells #[.int .i64 0] n) 3)) (.int .i64 0) n 3
  rw [nblk_alloc] at h2
  rw [nblk_alloc, nblk_alloc] at h3
  exact ⟨(((Below.refl _ wA).alloc (Nat.le_refl _) _).alloc (by rw [nblk_alloc]; omega) _).alloc (by rw [nblk_alloc, nblk_alloc]; omega) _, ((h1.alloc _).alloc _).congr (fun j _ => by simp [hh]), h2.alloc _, h3⟩

theorem tabB_add {wA wr : World} {n : Nat} {R : List Nat} {kw ke : Nat → Int} (h : TabB wA wr n R kw ke) (v : Nat) (q e : Int) :
    TabB wA (((wr.setCell ⟨wA.heap.size, v, none⟩ (.bool true)).setCell ⟨wA.heap.size + 1, v, none⟩ (.int .i64 q)).setCell ⟨wA.heap.size + 1 + 1, v, none⟩ (.int .i64 e)) n (R ++ [v]) (fun j => if j = v then q else kw j) (fun j => if j = v then e else ke j) := by
  refine ⟨((h.below.setCell (Nat.le_refl _) _).setCell (by show wA.heap.size ≤ wA.heap.size + 1; omega) _).setCell (by show wA.heap.size ≤ wA.heap.size + 1 + 1; omega) _,
    (((h.keyed.set _ _).setOther (a := ⟨wA.heap.size + 1, v, none⟩) (by show wA.heap.size ≠ wA.heap.size + 1; omega) _).setOther (a := ⟨wA.heap.size + 1 + 1, v, none⟩) (by show wA.heap.size ≠ wA.heap.size + 1 + 1; omega) _).congr (fun j _ => ?_),
    (((h.kw.setOther (a := ⟨wA.heap.size, v, none⟩) (by show wA.heap.size + 1 ≠ wA.heap.size; omega) _).set _ _).setOther (a := ⟨wA.heap.size + 1 + 1, v, none⟩) (by show wA.heap.size + 1 ≠ wA.heap.size + 1 + 1; omega) _).congr (fun j _ => ?_),
    (((h.ke.setOther (a := ⟨wA.heap.size, v, none⟩) (by show wA.heap.size + 1 + 1 ≠ wA.heap.size; omega) _).setOther (a := ⟨wA.heap.size + 1, v, none⟩) (by show wA.heap.size + 1 + 1 ≠ wA.heap.size + 1; omega) _).set _ _).congr (fun j _ => ?_)⟩
  · by_cases e : j = v
    · rw [if_pos e]; simp [hh, e]
    · rw [if_neg e]; simp [hh, e]
  · by_cases e : j = v
    · rw [if_pos e, if_pos e]
    · rw [if_neg e, if_neg e]
  · by_cases e : j = v
    · rw [if_pos e, if_pos e]
    · rw [if_neg e, if_neg e]

/-- The edges of the first t walkers. -/
def sumT (g : GA) (src : Nat) : Nat → Nat
  | 0 => 0
  | t + 1 => sumT g src t + deg g (wkr g src t)

theorem sumT_walk (g : GA) (src : Nat) : ∀ t, sumT g src (t + 1) = deg g src + walkSum g (stg g src) t
  | 0 => by simp [sumT, walkSum, wkr]
  | t + 1 => by
    rw [sumT, sumT_walk g src t, walkSum]
    show _ + deg g ((stg g src t).getD t 0) = _
    omega

end Go.Proofs.Qxb6619590a
