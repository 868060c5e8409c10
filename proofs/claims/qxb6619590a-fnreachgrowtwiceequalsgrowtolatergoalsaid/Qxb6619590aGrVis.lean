/-
  Statements 4 and 5: a reach as a whole; what grow's closure does to it.
-/
import Derived.Test.Qxb6619590aGrAdd
namespace Go.Proofs.Qxb6619590a
open Go.RowKit Go.Deep Go.Maps

def hh (rn : List Nat) : Nat → Bool := fun j => decide (j ∈ rn)
def mm (rn : List Nat) (S : Nat → Bool) : Nat → Bool := fun j => decide (j ∈ rn) || S j
def cnt (M : Nat → Bool) (n : Nat) : Nat := (List.range n).countP M

theorem cnt_le (M : Nat → Bool) (n : Nat) : cnt M n ≤ n := by
  have := List.countP_le_length (p := M) (l := List.range n)
  simpa [cnt] using this

theorem cnt_succ (M : Nat → Bool) (n : Nat) : cnt M (n + 1) = cnt M n + if M n then 1 else 0 := by
  simp [cnt, List.range_succ, List.countP_append, List.countP_cons]

theorem cnt_congr {M M' : Nat → Bool} {n : Nat} (h : ∀ j, j < n → M j = M' j) : cnt M n = cnt M' n := by
  induction n with
  | zero => rfl
  | succ n ih => rw [cnt_succ, cnt_succ, ih (fun j hj => h j (by omega)), h n (by omega)]

theorem cnt_with (M : Nat → Bool) {n k : Nat} (hk : k < n) : cnt (metWith M k) n = cntWith M (cnt M n) k := by
  induction n with
  | zero => omega
  | succ n ih =>
    rw [cnt_succ, cnt_succ]
    by_cases e : k = n
    · subst e
      have h1 : cnt (metWith M k) k = cnt M k := cnt_congr (fun j hj => by simp [metWith]; omega)
      rw [h1]
      cases hM : M k <;> simp [metWith, cntWith, hM]
    · rw [ih (by omega)]
      have h1 : metWith M k n = M n := by simp [metWith]; omega
      rw [h1]
      cases hM : M k <;> simp [cntWith, hM] <;> omega

theorem hh_with (rn : List Nat) (k : Nat) : heldWith (hh rn) k true = hh (rn ++ [k]) := by
  funext j
  simp [heldWith, hh]
theorem mm_with (rn : List Nat) (S : Nat → Bool) (k : Nat) : metWith (mm rn S) k = mm (rn ++ [k]) S := by
  funext j
  cases h : S j <;> simp [metWith, mm, h]
theorem hh_met (rn : List Nat) (k : Nat) : metWith (hh rn) k = hh (rn ++ [k]) := by
  funext j
  simp [metWith, hh]
theorem heldWith_false (H : Nat → Bool) (k : Nat) : heldWith H k false = H := by
  funext j
  simp [heldWith]

/-- A reach at block br: the nodes found, in order; the sources; how many are walked. -/
structure RS (w : World) (g : GA) (br : Nat) (rn : List Nat) (S : Nat → Bool) (wk : Nat) (vn few many : Value) : Prop where
  row : w.rowIs br 67 5 (rcell vn few many (cnt (mm rn S) g.n) wk)
  own : w.ownsRow br 21 1 vn rn.length (rn.map fun k => .int .i32 (g.vN k))
  set : SetIs w (· < br) g.n (cnt (mm rn S) g.n) (mm rn S) (hh rn) few many
  len : rn.length = cnt (hh rn) g.n
  lt : ∀ k ∈ rn, k < g.n

/-- grow's four boxes, from block b on. -/
structure Bx (w : World) (g : GA) (br b : Nat) (fol : Nat) : Prop where
  xr : w.rowIs b 44 1 (fun _ => .pointer (some ⟨br, 0, none⟩))
  xg : w.rowIs (b + 1) 28 1 (fun _ => .pointer (some ⟨g.bg, 0, none⟩))
  xd : w.rowIs (b + 2) 69 1 (fun _ => .int .i64 (g.d : Int))
  xf : w.rowIs (b + 3) 3 1 (fun _ => .int .i64 (fol : Int))

theorem Bx.lies {w w' : World} {g : GA} {br b fol : Nat} (h : Bx w g br b fol) (hl : Lies w w') : Bx w' g br b fol :=
  ⟨hl.row h.xr (by decide) (by decide), hl.row h.xg (by decide) (by decide), hl.row h.xd (by decide) (by decide), hl.row h.xf (by decide) (by decide)⟩

theorem own_block {w : World} {base : Nat} {v : Value} {n : Nat} {xs : List Value} (h : w.ownsRow base 21 1 v n xs) {b : Nat} (e : v.ownBlock = some b) : ∃ cs : Array Value, w.heap[b]? = some (.cells cs 21 (0, 0)) := by
  obtain ⟨_, ⟨rfl, _⟩ | ⟨g, cap, cur, rfl, _, h1, _⟩⟩ := h
  · cases e
  · cases e; exact ⟨cur, h1⟩

theorem grown_row {w w' : World} {base : Nat} {v : Value} {n : Nat} {xs : List Value} (h : w.ownsRow base 21 1 v n xs) (hg : w.grownBy w' v.ownBlock) {b t m : Nat} {f : Nat → Value} (hr : w.rowIs b t m f) (ht : t ≠ 21) : w'.rowIs b t m f :=
  hr.of_block (hg.block b hr.lt (fun e => by
    obtain ⟨cs, h1⟩ := own_block h e.symm
    obtain ⟨c, h2, _⟩ := hr
    rw [h1] at h2
    simp only [Option.some.injEq, Obj.cells.injEq] at h2
    exact ht h2.2.1.symm))

theorem grown_map {w w' : World} {base : Nat} {v : Value} {n : Nat} {xs : List Value} (h : w.ownsRow base 21 1 v n xs) (hg : w.grownBy w' v.ownBlock) {b c : Nat} {D : DataW Unit} (hr : w.ownsMap Try.prog 21 (plainElem Try.prog 4) b c D) : w'.ownsMap Try.prog 21 (plainElem Try.prog 4) b c D :=
  hr.kept hg (fun e => by
    obtain ⟨cs, h1⟩ := own_block h e.symm
    obtain ⟨es, clock, h2, _⟩ := hr
    rw [h1] at h2
    cases h2)

theorem row_ne {w : World} {b b' t t' m m' : Nat} {f f' : Nat → Value} (h : w.rowIs b t m f) (h' : w.rowIs b' t' m' f') (ht : t ≠ t') : b ≠ b' := fun e => by
  subst e
  obtain ⟨c, h1, _⟩ := h
  obtain ⟨c', h2, _⟩ := h'
  rw [h1] at h2
  simp only [Option.some.injEq, Obj.cells.injEq] at h2
  exact ht h2.2.1

theorem SetIs.grown {w w' : World} {base : Nat} {v : Value} {l : Nat} {xs : List Value} (ho : w.ownsRow base 21 1 v l xs) (hg : w.grownBy w' v.ownBlock) {F : Nat → Prop} {n N : Nat} {M H : Nat → Bool} {few many : Value} (h : SetIs w F n N M H few many) : SetIs w' F n N M H few many := by
  cases h with
  | fresh h0 hN => exact .fresh h0 hN
  | few bm D hF hown hD => exact .few bm D hF (grown_map ho hg hown) hD
  | many bs hF hrow => exact .many bs hF (grown_row ho hg hrow (by decide))

theorem SetIs.setRow {w : World} {br t m : Nat} {f : Nat → Value} (hr : w.rowIs br t m f) (ht : t ≠ 64) (i : Nat) (v : Value) {F : Nat → Prop} {n N : Nat} {M H : Nat → Bool} {few many : Value} (h : SetIs w F n N M H few many) : SetIs (w.setCell ⟨br, i, none⟩ v) F n N M H few many := by
  cases h with
  | fresh h0 hN => exact .fresh h0 hN
  | few bm D hF hown hD =>
    refine .few bm D hF (hown.setCell (a := ⟨br, i, none⟩) (fun e => ?_) _) hD
    obtain ⟨es, clock, h2, _⟩ := hown
    obtain ⟨c, h1, _⟩ := hr
    simp only at e
    rw [e, h1] at h2
    cases h2
  | many bs hF hrow => exact .many bs hF (hrow.setOther (a := ⟨br, i, none⟩) (row_ne hrow hr (Ne.symm ht)) _)

theorem SetIs.alloc {w : World} (o : Obj) {F : Nat → Prop} {n N : Nat} {M H : Nat → Bool} {few many : Value} (h : SetIs w F n N M H few many) : SetIs (w.alloc o) F n N M H few many := by
  cases h with
  | fresh h0 hN => exact .fresh h0 hN
  | few bm D hF hown hD => exact .few bm D hF (hown.alloc o) hD
  | many bs hF hrow => exact .many bs hF (hrow.alloc o)

theorem row_0 {w : World} {br N wk : Nat} {vn few many vn' : Value} (h : w.rowIs br 67 5 (rcell vn few many N wk)) : (w.setCell ⟨br, 0, none⟩ vn').rowIs br 67 5 (rcell vn' few many N wk) :=
  (h.set 0 _).congr (fun j hj => by
    match j, hj with
    | 0, _ => rfl
    | 1, _ => rfl
    | 2, _ => rfl
    | 3, _ => rfl
    | 4, _ => rfl)
theorem row_4 {w : World} {br N wk wk' : Nat} {vn few many : Value} (h : w.rowIs br 67 5 (rcell vn few many N wk)) : (w.setCell ⟨br, 4, none⟩ (.int .i64 (wk' : Int))).rowIs br 67 5 (rcell vn few many N wk') :=
  (h.set 4 _).congr (fun j hj => by
    match j, hj with
    | 0, _ => rfl
    | 1, _ => rfl
    | 2, _ => rfl
    | 3, _ => rfl
    | 4, _ => rfl)

/-- Behind add(w, true) and append. -/
theorem rs_append {w w1 w2 : World} {g : GA} {br b fol : Nat} {rn : List Nat} {S : Nat → Bool} {wk : Nat} {vn few many : Value} (h : RS w g br rn S wk vn few many) (hx : Bx w g br b fol) {k : Nat} (hk : k < g.n) (hnot : k ∉ rn)
    (ha : AddIs w br g.n (cnt (mm rn S) g.n) wk (mm rn S) (hh rn) k true vn w1) {q : Nat} {o : Obj} {gb cap : Nat}
    (hown : w2.ownsRow br 21 1 (.slice (some ⟨gb, 0, none⟩) (rn.length + 1) cap) (rn.length + 1) ((rn.map fun k => .int .i32 (g.vN k)) ++ [.int .i32 (g.vN k)]))
    (hg : ((w1.drewN q).alloc o).grownBy w2 vn.ownBlock) :
    ∃ few' many', RS (w2.setCell ⟨br, 0, none⟩ (.slice (some ⟨gb, 0, none⟩) (rn.length + 1) cap)) g br (rn ++ [k]) S wk (.slice (some ⟨gb, 0, none⟩) (rn.length + 1) cap) few' many' ∧ Bx (w2.setCell ⟨br, 0, none⟩ (.slice (some ⟨gb, 0, none⟩) (rn.length + 1) cap)) g br b fol ∧ Below br w (w2.setCell ⟨br, 0, none⟩ (.slice (some ⟨gb, 0, none⟩) (rn.length + 1) cap)) := by
  obtain ⟨hb, hl, few', many', hrow, hset⟩ := ha
  have ho1 : ((w1.drewN q).alloc o).ownsRow br 21 1 vn rn.length (rn.map fun k => .int .i32 (g.vN k)) := World.ownsRow.alloc (w := w1.drewN q) (hl.owns h.own (by decide) (by decide)) o
  have hr1 : ((w1.drewN q).alloc o).rowIs br 67 5 (rcell vn few' many' (cntWith (mm rn S) (cnt (mm rn S) g.n) k) wk) := World.rowIs.alloc (w := w1.drewN q) hrow o
  have hr2 := grown_row ho1 hg hr1 (by decide)
  have hbx := hx.lies hl
  have hs2 := ((hset.drewN q).alloc o).grown ho1 hg
  have hcnt : cntWith (mm rn S) (cnt (mm rn S) g.n) k = cnt (mm (rn ++ [k]) S) g.n := by rw [← mm_with, cnt_with _ hk]
  rw [hcnt] at hr2 hs2
  rw [mm_with, hh_with] at hs2
  have bx1 : ∀ {c t m : Nat} {f : Nat → Value}, w1.rowIs c t m f → t ≠ 21 → t ≠ 67 → (w2.setCell ⟨br, 0, none⟩ (.slice (some ⟨gb, 0, none⟩) (rn.length + 1) cap)).rowIs c t m f := fun hc h1 h2 => by
    have h3 := grown_row ho1 hg (World.rowIs.alloc (w := w1.drewN q) hc o) h1
    exact h3.setOther (a := ⟨br, 0, none⟩) (row_ne h3 hr2 h2) _
  refine ⟨few', many', ⟨row_0 hr2, ?_, hs2.setRow hr2 (by decide) 0 _, ?_, ?_⟩, ⟨bx1 hbx.xr (by decide) (by decide), bx1 hbx.xg (by decide) (by decide), bx1 hbx.xd (by decide) (by decide), bx1 hbx.xf (by decide) (by decide)⟩, ?_⟩
  · have hk' : w2.grownBy (w2.setCell ⟨br, 0, none⟩ (.slice (some ⟨gb, 0, none⟩) (rn.length + 1) cap)) (some br) := ⟨rfl, rfl, rfl, Nat.le_of_eq (nblk_setCell _ _ _).symm, fun x _ hx => blk_setCell_other _ _ _ _ (fun e => hx (by rw [e]))⟩
    have := hown.kept hk' (.inr (fun e => by
      obtain ⟨cs, h1⟩ := own_block hown (b := gb) rfl
      obtain ⟨c, h2, _⟩ := hr2
      have e' : gb = br := by simpa [Value.ownBlock] using e
      rw [e', h2] at h1
      simp at h1))
    rw [List.length_append, List.map_append]
    exact this
  · rw [List.length_append, ← hh_met, cnt_with _ hk, cntWith, h.len]
    simp [hh, hnot]
  · intro j hj
    rcases List.mem_append.1 hj with hj | hj
    · exact h.lt j hj
    · simp at hj; omega
  · refine (Below.trans hb ?_).setCell (Nat.le_refl _) _
    have h0 : Below br w1 ((w1.drewN q).alloc o) := (Kept.of_below (Below.refl br w1) |>.drewN q |>.below).alloc (by have := hrow.lt; show br ≤ w1.heap.size; omega) o
    exact h0.grown hg (by have := hr1.lt; omega) (fun x e => (ho1.lt x e).1)

end Go.Proofs.Qxb6619590a
