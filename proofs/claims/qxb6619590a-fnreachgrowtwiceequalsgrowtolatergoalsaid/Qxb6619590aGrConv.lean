/-
  Statements 4 and 5: function 27, (*nodeSet).add, where the set becomes an array.
-/
import Derived.Test.Qxb6619590aGrFew
import Derived.Laws.IdiomRangeMap
namespace Go.Proofs.Qxb6619590a
open Go.RowKit Go.Deep Go.Maps

theorem Try.info64 : (Try.prog.info? 64).map (fun i => (i.zero, i.size, i.bytes)) = some (some (.int .u8 0), 1, 1) := by kernel_rfl

/-- The range's step, int32 keys, bool elements. -/
theorem next_ib {w : World} {ops : Array Oper} {rest : List Oper} {o : Oper} {a : Act} {Q : Exit → Act → World → Prop} (hg : o.guard = none) (it : Operand) (hop : o.op = Op.next it false)
    (b r n : Nat) (D : DataW Unit) (left : Lit → Bool) (cnt : Nat) (hit : a.eval it = .pointer (some ⟨r, 0, none⟩)) (h : w.ranges Try.prog 21 (plainElem Try.prog 4) b r n D left cnt)
    (hDone : cnt = 0 → (∀ kl, left kl = false) → wpList Try.prog ops Q rest (a.put o.dst (.tuple #[.bool false])) w)
    (hMore : ∀ (x : Int) (c : Bool) (w' : World) (cnt' : Nat), (Lit.int .i32 x).wf = true → left (.int .i32 x) = true → (∀ zd, D.atKey (.int .i32 x) zd = .lit (.bool c)) → w'.ranges Try.prog 21 (plainElem Try.prog 4) b r n D (fun z => left z && !z.sameKey (.int .i32 x)) cnt' → cnt' < cnt →
      w.grownBy w' (some r) → w'.heap.size = w.heap.size → (Instr.entry (.pointer (some ⟨r, 0, none⟩))).run Try.prog w' = .ok (.tuple #[.int .i32 x, .bool c]) w' → wpList Try.prog ops Q rest (a.put o.dst (.tuple #[.bool true, .int .i32 x, .bool c])) w') :
    wpList Try.prog ops Q (o :: rest) a w :=
  wpList_next_ranges w hg it hop 21 key21 (plainElem Try.prog 4) (Value.int .i32) Value.bool (fun key kl hkey => by obtain ⟨x, rfl, _⟩ := Maps.keyOf_int_inv Try.underlying21 hkey; exact ⟨x, rfl⟩) (fun v y hv => by obtain ⟨c, rfl, _⟩ := plainElem_bool_inv Try.underlying4 hv; exact ⟨c, rfl⟩)
    b r n D left cnt hit h hDone (fun x c kl y w' cnt' hkey hlk hv hat hrg hlt hgr hsz hen => by
      obtain ⟨x', ex, rfl, hwx⟩ := Maps.keyOf_int_inv Try.underlying21 hkey
      cases ex
      obtain ⟨c', ec, rfl⟩ := plainElem_bool_inv Try.underlying4 hv
      cases ec
      exact hMore x c w' cnt' hwx hlk hat hrg hlt hgr hsz hen)

/-- What stands behind the loop. -/
structure Conv (w wz : World) (br n N wk : Nat) (M H : Nat → Bool) (vn few : Value) (bs : Nat) : Prop where
  below : Below br w wz
  lies : Lies w wz
  row : wz.rowIs br 67 5 (rcell vn few (.slice (some ⟨bs, 0, none⟩) n n) N wk)
  hbs : br ≤ bs
  set : wz.rowIs bs 64 n (fun j => .int .u8 (code (M j) (H j)))

theorem Conv.ne {w wz : World} {br n N wk : Nat} {M H : Nat → Bool} {vn few : Value} {bs : Nat} (h : Conv w wz br n N wk M H vn few bs) : bs ≠ br := fun e => by
  obtain ⟨c, h1, _⟩ := h.row
  obtain ⟨c', h2, _⟩ := h.set
  rw [e, h1] at h2
  simp at h2

theorem Conv.nil {w wz : World} {br n N wk : Nat} {M H : Nat → Bool} {vn few : Value} {bs : Nat} (h : Conv w wz br n N wk M H vn few bs) : Conv w (wz.setCell ⟨br, 1, none⟩ (.map none)) br n N wk M H vn (.map none) bs :=
  ⟨h.below.setCell (Nat.le_refl _) _, h.lies.setRow h.row (.inl rfl) 1 _, row_few h.row, h.hbs, h.set.setOther (a := ⟨br, 1, none⟩) h.ne _⟩

theorem Conv.met {w wz : World} {br n N wk : Nat} {M H : Nat → Bool} {vn : Value} {bs : Nat} (h : Conv w wz br n N wk M H vn (.map none) bs) (hn : n ≤ 262144) (hMH : ∀ k, H k = true → M k = true) {k : Nat} (hk : k < n) :
    Calls Try.prog 28 #[.pointer (some ⟨br, 1, none⟩), .int .i32 (k : Int)] wz fun e w' => e = .returned (.bool (M k)) ∧ w' = wz :=
  met_any wz (F := (· < br)) (N := N) (.many bs (by have := h.hbs; omega) h.set) (by omega) hMH hk br (h.row.cell (by decide)) (h.row.cell (by decide))

theorem Conv.fin_t {w wz : World} {br n N wk : Nat} {M H : Nat → Bool} {vn : Value} {bs : Nat} (h : Conv w wz br n N wk M H vn (.map none) bs) {k : Nat} (hM : M k = true) (inn : Bool) :
    AddIs w br n N wk M H k inn vn (wz.setCell ⟨bs, k, none⟩ (.int .u8 (code true (H k || inn)))) :=
  many_tail h.below h.lies (by rw [cntWith, hM]; exact h.row) h.hbs h.set
theorem Conv.fin_f {w wz : World} {br n N wk : Nat} {M H : Nat → Bool} {vn : Value} {bs : Nat} (h : Conv w wz br n N wk M H vn (.map none) bs) {k : Nat} (hM : M k = false) (inn : Bool) :
    AddIs w br n N wk M H k inn vn ((wz.setCell ⟨br, 3, none⟩ (.int .i64 ((N : Int) + 1))).setCell ⟨bs, k, none⟩ (.int .u8 (code true (H k || inn)))) :=
  many_tail (h.below.setCell (Nat.le_refl _) _) (h.lies.setRow h.row (.inl rfl) _ _) (by rw [cntWith, hM]; exact row_n (N' := N + 1) h.row) h.hbs (h.set.setOther (a := ⟨br, 3, none⟩) h.ne _)

/-- In the loop. -/
structure Going (w wr : World) (br n N wk : Nat) (M H : Nat → Bool) (vn : Value) (bm bs r : Nat) (D : DataW Unit) (left : Lit → Bool) (cnt : Nat) : Prop where
  below : Below br w wr
  lies : Lies w wr
  row : wr.rowIs br 67 5 (rcell vn (.map (some bm)) (.slice (some ⟨bs, 0, none⟩) n n) N wk)
  hbs : br ≤ bs
  rg : wr.ranges Try.prog 21 (plainElem Try.prog 4) bm r N D left cnt
  set : wr.rowIs bs 64 n (fun j => .int .u8 (if left (.int .i32 (j : Int)) then 0 else code (M j) (H j)))
  le : w.heap.size ≤ r
  ltw : br < w.heap.size

theorem Going.done {w wr : World} {br n N wk : Nat} {M H : Nat → Bool} {vn : Value} {bm bs r : Nat} {D : DataW Unit} {left : Lit → Bool} {cnt : Nat} (h : Going w wr br n N wk M H vn bm bs r D left cnt) (hl : ∀ kl, left kl = false) : Conv w wr br n N wk M H vn (.map (some bm)) bs :=
  ⟨h.below, h.lies, h.row, h.hbs, h.set.congr (fun j _ => by rw [hl]; rfl)⟩

/-- Behind make and the store. -/
def madeAt (w : World) (q br n : Nat) : World := ((w.drewN q).alloc (.cells (madeCells #[.int .u8 0] n) 64)).setCell ⟨br, 2, none⟩ (.slice (some ⟨w.heap.size, 0, none⟩) n n)

theorem made_facts {w : World} (q : Nat) {br n N wk : Nat} {vn few : Value} (hbr : w.rowIs br 67 5 (rcell vn few (.slice none 0 0) N wk)) :
    (madeAt w q br n).heap.size = w.heap.size + 1 ∧ Below br w (madeAt w q br n) ∧ (madeAt w q br n).rowIs w.heap.size 64 n (fun _ => .int .u8 0) ∧ Lies w (madeAt w q br n) ∧ (madeAt w q br n).rowIs br 67 5 (rcell vn few (.slice (some ⟨w.heap.size, 0, none⟩) n n) N wk) := by
  have hlt := hbr.lt
  have hr0 : ((w.drewN q).alloc (.cells (madeCells #[.int .u8 0] n) 64)).rowIs br 67 5 (rcell vn few (.slice none 0 0) N wk) := World.rowIs.alloc (w := w.drewN q) hbr _
  have hl0 : Lies w ((w.drewN q).alloc (.cells (madeCells #[.int .u8 0] n) 64)) := (Lies.refl w |>.drewN q).alloc _
  refine ⟨by unfold madeAt; rw [nblk_setCell, nblk_alloc]; rfl, ((Kept.of_below (Below.refl br w) |>.drewN q |>.below).alloc (by show br ≤ w.heap.size; omega) _).setCell (Nat.le_refl _) _,
    (World.rowIs_made (w.drewN q) (.int .u8 0) n 64).setOther (a := ⟨br, 2, none⟩) (by show w.heap.size ≠ br; omega) _, hl0.setRow hr0 (.inl rfl) _ _, row_many hr0⟩

theorem Going.start {w w0 : World} {q : Nat} {br n N wk : Nat} {M H : Nat → Bool} {vn : Value} {bm : Nat} {D : DataW Unit} (hbr : w.rowIs br 67 5 (rcell vn (.map (some bm)) (.slice none 0 0) N wk)) (hD : Few D n N M H) (hMH : ∀ k, H k = true → M k = true)
    (hg : (madeAt w q br n).grownBy w0 none)
    (hr : w0.ranges Try.prog 21 (plainElem Try.prog 4) bm (w.heap.size + 1) N D (Maps.has D) (Maps.size D)) :
    Going w w0 br n N wk M H vn bm w.heap.size (w.heap.size + 1) D (Maps.has D) (Maps.size D) := by
  have hlt := hbr.lt
  obtain ⟨hnb, hb, hr1, hl, hrr⟩ := made_facts q (n := n) hbr
  refine ⟨hb.grown hg (by rw [hnb]; omega) (fun k e => by cases e), fun x cs t fr e h1 h2 => ?_, hrr.of_block (hg.block _ hrr.lt (by simp)), by omega, hr, (hr1.of_block (hg.block _ hr1.lt (by simp))).congr (fun j hj => ?_), by omega, hlt⟩
  · have e' := hl x cs t fr e h1 h2
    obtain ⟨hlt, _⟩ := Array.getElem?_eq_some_iff.1 e'
    rw [hg.block x hlt (by simp)]
    exact e'
  · rw [hD.has j hj]
    cases hM : M j with
    | true => rfl
    | false =>
      have hH : H j = false := by
        cases h : H j with
        | false => rfl
        | true => rw [hMH j h] at hM; cases hM
      rw [hH]; rfl

theorem Going.step {w wr w1 : World} {br n N wk : Nat} {M H : Nat → Bool} {vn : Value} {bm bs r : Nat} {D : DataW Unit} {left : Lit → Bool} {cnt cnt1 : Nat} (h : Going w wr br n N wk M H vn bm bs r D left cnt) (hD : Few D n N M H)
    {k : Nat} (hk : k < n) {c : Bool} (hat : ∀ zd, D.atKey (.int .i32 (k : Int)) zd = .lit (.bool c)) (hrg : w1.ranges Try.prog 21 (plainElem Try.prog 4) bm r N D (fun z => left z && !z.sameKey (.int .i32 (k : Int))) cnt1)
    (hg : wr.grownBy w1 (some r)) : w1.cell? ⟨br, 2, none⟩ = some (.slice (some ⟨bs, 0, none⟩) n n) ∧ w1.cell? ⟨bs, k, none⟩ = some (.int .u8 (if left (.int .i32 (k : Int)) then 0 else code (M k) (H k))) ∧ w1.frozen? ⟨bs, k, none⟩ = false ∧ bs ≠ br ∧
      (c = false → Going w (w1.setCell ⟨bs, k, none⟩ (.int .u8 1)) br n N wk M H vn bm bs r D (fun z => left z && !z.sameKey (.int .i32 (k : Int))) cnt1) ∧
      (c = true → Going w ((w1.setCell ⟨bs, k, none⟩ (.int .u8 1)).setCell ⟨bs, k, none⟩ (.int .u8 2)) br n N wk M H vn bm bs r D (fun z => left z && !z.sameKey (.int .i32 (k : Int))) cnt1) := by
  have hrr : r ≠ br ∧ r ≠ bs ∧ bs ≠ br ∧ bm ≠ bs := by
    obtain ⟨es, clock, since, seen, c0, g1, _, _, _, g2, _⟩ := h.rg
    obtain ⟨c1, g3, _⟩ := h.row
    obtain ⟨c2, g4, _⟩ := h.set
    refine ⟨fun e => ?_, fun e => ?_, fun e => ?_, fun e => ?_⟩
    · rw [e, g3] at g2; simp at g2
    · rw [e, g4] at g2; simp at g2
    · rw [e, g3] at g4; simp at g4
    · rw [e, g4] at g1; simp at g1
  obtain ⟨n1, n2, n3, n4⟩ := hrr
  have hrow1 := h.row.of_block (hg.block br h.row.lt (fun e => n1 (by cases e; rfl)))
  have hset1 := h.set.of_block (hg.block bs h.set.lt (fun e => n2 (by cases e; rfl)))
  have hb1 : Below br w w1 := h.below.grown hg (Nat.le_of_lt h.row.lt) (fun x e => by cases e; exact Nat.le_trans (Nat.le_of_lt h.ltw) h.le)
  have hl1 : Lies w w1 := fun x cs t fr e h1 h2 => by
    have e' := h.lies x cs t fr e h1 h2
    obtain ⟨hlt, _⟩ := Array.getElem?_eq_some_iff.1 e'
    rw [hg.block x hlt (fun ex => by
      cases ex
      obtain ⟨es, clock, since, seen, c0, g1, _, _, _, g2, _⟩ := h.rg
      rw [e'] at g2
      simp at g2)]
    exact e'
  have hMk : M k = true := by rw [← hD.has k hk]; exact has_true_of_atKey hat
  have hHk : H k = c := by
    have := hD.look k hk
    rw [hat] at this
    simpa using this.symm
  have hrs : ∀ (v : Value), (w1.setCell ⟨bs, k, none⟩ v).ranges Try.prog 21 (plainElem Try.prog 4) bm r N D (fun z => left z && !z.sameKey (.int .i32 (k : Int))) cnt1 := fun v =>
    hrg.kept (row := some bs) ⟨rfl, rfl, rfl, Nat.le_of_eq (nblk_setCell _ _ _).symm, fun x _ hx => blk_setCell_other _ _ _ _ (fun e => hx (by rw [e]))⟩ (fun e => n4 (by cases e; rfl)) (fun e => n2 (by cases e; rfl))
  have hcell : ∀ v : Int, code true c = v → ∀ j, (if j = k then Value.int .u8 v else .int .u8 (if left (.int .i32 (j : Int)) then 0 else code (M j) (H j))) = .int .u8 (if (fun z : Lit => left z && !z.sameKey (.int .i32 (k : Int))) (.int .i32 (j : Int)) then 0 else code (M j) (H j)) := fun v hv j => by
    by_cases e : j = k
    · subst e
      have : (Lit.int .i32 (j : Int)).sameKey (.int .i32 (j : Int)) = true := by simp [Lit.sameKey]
      simp only [if_true, this, Bool.not_true, Bool.and_false, Bool.false_eq_true, if_false, hMk, hHk, hv]
    · have : (Lit.int .i32 (j : Int)).sameKey (.int .i32 (k : Int)) = false := sameKey_ne (by simp; omega)
      simp only [if_neg e, this, Bool.not_false, Bool.and_true]
  refine ⟨hrow1.cell (by decide), hset1.cell hk, hset1.frozen k, n3, fun hc => ?_, fun hc => ?_⟩
  · exact ⟨hb1.setCell h.hbs _, hl1.setRow hset1 (.inr rfl) _ _, hrow1.setOther (a := ⟨bs, k, none⟩) (Ne.symm n3) _, h.hbs, hrs _, (hset1.set k _).congr (fun j _ => hcell 1 (by rw [hc]; rfl) j), h.le, h.ltw⟩
  · have hs1 := hset1.set k (.int .u8 1)
    refine ⟨(hb1.setCell h.hbs _).setCell h.hbs _, (hl1.setRow hset1 (.inr rfl) _ _).setRow hs1 (.inr rfl) _ _, (hrow1.setOther (a := ⟨bs, k, none⟩) (Ne.symm n3) _).setOther (a := ⟨bs, k, none⟩) (Ne.symm n3) _, h.hbs, ?_, (hs1.set k _).congr (fun j _ => ?_), h.le, h.ltw⟩
    · exact (hrs (.int .u8 1)).kept (row := some bs) ⟨rfl, rfl, rfl, Nat.le_of_eq (nblk_setCell _ _ _).symm, fun x _ hx => blk_setCell_other _ _ _ _ (fun e => hx (by rw [e]))⟩ (fun e => n4 (by cases e; rfl)) (fun e => n2 (by cases e; rfl))
    · rw [← hcell 2 (by rw [hc]; rfl) j]
      by_cases e : j = k
      · simp [e]
      · simp [e]

set_option maxRecDepth 100000 in
set_option maxHeartbeats 2000000 in
theorem add_conv (w : World) (br bg n N wk : Nat) (M H : Nat → Bool) (k : Nat) (inn : Bool) (vn : Value) (aN : Option Addr) (bm : Nat) (D : DataW Unit) (hn : n ≤ 262144) (hk : k < n) (hN : n < (N + 1) * 8) (hN0 : N ≤ n) (hMH : ∀ k, H k = true → M k = true)
    (c0 : w.cell? ⟨bg, 0, none⟩ = some (.slice aN n n)) (hbgr : bg < br)
    (hbr : w.rowIs br 67 5 (rcell vn (.map (some bm)) (.slice none 0 0) N wk)) (hown : w.ownsMap Try.prog 21 (plainElem Try.prog 4) bm N D) (hD : Few D n N M H) :
    Calls Try.prog 27 #[.pointer (some ⟨br, 1, none⟩), .pointer (some ⟨bg, 0, none⟩), .int .i32 (k : Int), .bool inn] w fun e w' => e = .returned (.tuple #[]) ∧ AddIs w br n N wk M H k inn vn w' := by
  have hq := fun w a n c n' c' => run_neq_slice_nil_any (P := Try.prog) w 59 64 a n c n' c' Try.underlying59
  have he := fun w a n c n' c' => Lib.run_eql_slice_nil (P := Try.prog) w 59 64 a n c n' c' Try.underlying59
  have hmk := run_make_row' (P := Try.prog) 59 64 (.int .u8 0) 1 Try.underlying59 Try.info64 rfl .i64 .i64 n (by omega) (by omega)
  have c1 : w.cell? ⟨br, 1, none⟩ = some (.map (some bm)) := hbr.cell (by decide)
  have c2 : w.cell? ⟨br, 2, none⟩ = some (.slice none 0 0) := hbr.cell (by decide)
  have c3 : w.cell? ⟨br, 3, none⟩ = some (.int .i64 N) := hbr.cell (by decide)
  have f2 : w.frozen? ⟨br, 2, none⟩ = false := hbr.frozen 2
  have hlt := hbr.lt
  have hN1 := wrap_in ((N : Int) + 1) (by omega) (by omega)
  have hN2 := wrap_in (((N : Int) + 1) * 8) (by omega) (by omega)
  have hN3 : (n : Int) < ((N : Int) + 1) * 8 := by omega
  have hne : bm ≠ br := fun e => by
    subst e
    obtain ⟨cc, h, _⟩ := hbr
    obtain ⟨es, clock, h', _⟩ := hown
    rw [h] at h'
    cases h'
  go_enter Try.func27, Try.ntmps27
  go_wp2_with fail
  go_quiet (fail)
  have g2 : ((w.drewN nq).alloc (.cells (madeCells #[.int .u8 0] n) 64)).cell? ⟨br, 2, none⟩ = some (.slice none 0 0) := by rw [World.cell?_alloc_old _ _ _ (Nat.ne_of_lt hlt)]; exact c2
  have g2' : ((w.drewN nq).alloc (.cells (madeCells #[.int .u8 0] n) 64)).frozen? ⟨br, 2, none⟩ = false := (World.rowIs.alloc (w := w.drewN nq) hbr _).frozen 2
  have g1 : ((w.drewN nq).alloc (.cells (madeCells #[.int .u8 0] n) 64)).cell? ⟨br, 1, none⟩ = some (.map (some bm)) := by rw [World.cell?_alloc_old _ _ _ (Nat.ne_of_lt hlt)]; exact c1
  obtain ⟨hnb, hb, hr1, hl, hrr⟩ := made_facts nq (n := n) hbr
  have hownW : (madeAt w nq br n).ownsMap Try.prog 21 (plainElem Try.prog 4) bm N D := (World.ownsMap.alloc (w := w.drewN nq) hown _).setCell (a := ⟨br, 2, none⟩) hne _
  have hst := fun w0 => Going.start (w0 := w0) (q := nq) hbr hD hMH
  go_wp2_with (first
    | (at_range; refine wpList_range_own _ rfl (.tmp 41) 58 rfl 21 4 key21 Try.underlying58 (plainElem Try.prog 4) bm N D rfl (by exact hownW) ?_; intro w0 hrg0 hg0 hs0)
    | go_in)
  go_frame
  clear g1 g2 g2' hrr hr1 hl hb
  replace hrg0 : w0.ranges Try.prog 21 (plainElem Try.prog 4) bm (madeAt w nq br n).heap.size N D (Maps.has D) (Maps.size D) := hrg0
  rw [hnb] at hrg0
  replace hst := hst w0 hg0 hrg0
  have hnb' : (((w.drewN nq).alloc (.cells (madeCells #[.int .u8 0] n) 64)).setCell ⟨br, 2, none⟩ (.slice (some ⟨w.heap.size, 0, none⟩) n n)).heap.size = w.heap.size + 1 := hnb
  rw [hnb']
  clear hg0 hs0 hrg0 hnb hownW hmk hnb'
  go_loopg [8, 9] (Maps.size D) (fun g _ _ wr => ∃ left : Lit → Bool, Going w wr br n N wk M H vn bm w.heap.size (w.heap.size + 1) D left g)
  case atStart => exact ⟨_, hst⟩
  case round =>
    obtain ⟨left, hgo⟩ := hrel
    go_wp2_with (first
      | (at_next; refine next_ib rfl (.tmp 42) rfl bm (w.heap.size + 1) N D left _ rfl hgo.rg ?_ ?_)
      | go_in)
    · intro hc0 hl0
      have hcv := (hgo.done hl0).nil
      have hm := hcv.met hn hMH hk
      have hne' := hcv.ne
      have d1 : wr.cell? ⟨br, 1, none⟩ = some (.map (some bm)) := hgo.row.cell (by decide)
      have d2 : wr.cell? ⟨br, 2, none⟩ = some (.slice (some ⟨w.heap.size, 0, none⟩) n n) := hgo.row.cell (by decide)
      have d3 : wr.cell? ⟨br, 3, none⟩ = some (.int .i64 N) := hgo.row.cell (by decide)
      have e1 : wr.frozen? ⟨br, 1, none⟩ = false := hgo.row.frozen 1
      have e3 : wr.frozen? ⟨br, 3, none⟩ = false := hgo.row.frozen 3
      have ek : wr.frozen? ⟨w.heap.size, k, none⟩ = false := hgo.set.frozen k
      have dk : wr.cell? ⟨w.heap.size, k, none⟩ = some (.int .u8 (code (M k) (H k))) := by have := hgo.set.cell hk; rw [hl0] at this; exact this
      have hkn : (k : Int) < n := by omega
      have hmx := code_max (M k) (H k)
      obtain ⟨cd, hcd⟩ : ∃ cd, cd = code (M k) (H k) := ⟨_, rfl⟩
      rw [← hcd] at dk hmx
      have h2 : code true (H k || true) = 2 := by simp [code]
      have hft := fun h => hcv.fin_t (k := k) h inn
      have hff := fun h => hcv.fin_f (k := k) h inn
      clear hgo hcv hD hbr hown hst hcd
      cases hM : M k with
      | true =>
        have hfin := hft hM
        rw [hM] at hm
        clear hft hff hM
        cases inn with
        | true =>
          rw [h2] at hfin
          clear hmx h2
          go_wp2_with fail
          refine Calls.mono hm ?_
          rintro e w1 ⟨rfl, rfl⟩
          clear hm
          go_wp2_with fail
          go_end0
          exact ⟨rfl, hfin⟩
        | false =>
          clear h2
          by_cases hc1 : cd < 1
          all_goals
            first
              | rw [if_pos hc1] at hmx
              | rw [if_neg hc1] at hmx
            rw [← hmx] at hfin
            clear hmx
            go_wp2_with fail
            refine Calls.mono hm ?_
            rintro e w1 ⟨rfl, rfl⟩
            clear hm
            go_wp2_with fail
            go_big_region
            go_wp2_with fail
            go_end0
            exact ⟨rfl, hfin.drew⟩
      | false =>
        have hfin := hff hM
        rw [hM] at hm
        clear hft hff hM
        cases inn with
        | true =>
          rw [h2] at hfin
          clear hmx h2
          go_wp2_with fail
          refine Calls.mono hm ?_
          rintro e w1 ⟨rfl, rfl⟩
          clear hm
          go_wp2_with fail
          go_end0
          exact ⟨rfl, hfin⟩
        | false =>
          clear h2
          by_cases hc1 : cd < 1
          all_goals
            first
              | rw [if_pos hc1] at hmx
              | rw [if_neg hc1] at hmx
            rw [← hmx] at hfin
            clear hmx
            go_wp2_with fail
            refine Calls.mono hm ?_
            rintro e w1 ⟨rfl, rfl⟩
            clear hm
            go_wp2_with fail
            go_big_region
            go_wp2_with fail
            go_end0
            exact ⟨rfl, hfin.drew⟩
    · intro x
      constructor
      all_goals
        intro w1 cnt1 hwx hlx hat hrg1 hlt1 hg1 hs1 hen
        obtain ⟨kk, hkk, rfl⟩ := hD.key x (has_true_of_atKey hat)
        obtain ⟨d1, d2, d3, d4, d5, d6⟩ := hgo.step hD hkk hat hrg1 hg1
        have hkk' : (kk : Int) < n := by omega
        clear hgo hrg1 hg1 hs1 hat hwx hst
        first
          | have d7 := d5 rfl
          | have d7 := d6 rfl
        clear d5 d6
        go_wp2_with fail
        go_roundg cnt1
        case measure => exact hlt1
        case rel => exact ⟨_, d7⟩

end Go.Proofs.Qxb6619590a
