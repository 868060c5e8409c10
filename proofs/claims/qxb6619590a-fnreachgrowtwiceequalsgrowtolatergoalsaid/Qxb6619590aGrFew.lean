/-
  Statements 4 and 5: function 27, (*nodeSet).add, where the set stays a map.
-/
import Derived.Test.Qxb6619590aGrSet
import Derived.Deep.RegionLaw
namespace Go.Proofs.Qxb6619590a
open Go.RowKit Go.Deep Go.Maps

/-- 'm[k] = v' at a step of a region that draws its order. -/
theorem step_mapUpdate_own {H : Type} {P : Program} (w : World) {ops : Array Oper} {o : Oper} {a : Act} {K : Act → World → Prop} {Q : Exit → Act → World → Prop} {E : Prop}
    (hg : o.guard = none) (m x v : Operand) (t : TypeId) (hop : o.op = Op.mapUpdate t m x v)
    (k e : TypeId) (K' : Keyed P k) (ht : P.underlying t = some (.map k e)) (R : Value → Option (DataW H × List MemPlace)) (b n : Nat) (D : DataW H)
    (hm : a.eval m = .map (some b)) (hown : w.ownsMap P k R b n D) (hn : n < maxLen) (key val : Value) (kl : Lit) (hx : a.eval x = key) (hv : a.eval v = val) (hkey : keyOf P k key = some kl)
    (d : DataW H) (ps : List MemPlace) (hval : R val = some (d, ps))
    (hK : ∀ w', w'.ownsMap P k R b (n + 1) (D.put kl d) → w.grownBy w' (some b) → K (a.put o.dst undef) w') :
    if Region.wanted o (yielded ops a.tmps) = true then Oper.wp P o a w K Q else E := by
  have hw : Region.wanted o (yielded ops a.tmps) = true := by simp [Region.wanted, hg]
  rw [if_pos hw]
  obtain ⟨w', hrun, r1, r2⟩ := hown.update K' ht hn hkey hval
  unfold Oper.wp
  simp [execOp, hop, hm, hx, hv, hrun, Result.andThen]
  exact hK w' r1 r2

theorem ownsMap_tight {H : Type} {P : Program} {k : TypeId} {R : Value → Option (DataW H × List MemPlace)} {w : World} {b n : Nat} {D : DataW H} (h : w.ownsMap P k R b n D) : w.ownsMap P k R b (Maps.size D) D := by
  obtain ⟨es, clock, hb, F, hs, rfl⟩ := h
  exact ⟨es, clock, hb, F, Nat.le_of_eq (by simp [Maps.size, length_sorted]), rfl⟩

theorem keyLit {k n : Nat} (hk : k < n) (hn : n ≤ 1048576) : WideAt.IsKeyLit (.int .i32 (k : Int)) := key21.key (keyOf_int_mk Try.underlying21 (wfKey hk hn))

theorem Few.put {D : DataW Unit} {n N : Nat} {M H : Nat → Bool} (h : Few D n N M H) (ht : Tidy D) {k : Nat} (hk : k < n) (hn : n ≤ 1048576) (inn : Bool) :
    Few (D.put (.int .i32 (k : Int)) (.lit (.bool (H k || inn)))) n (cntWith M N k) (metWith M k) (heldWith H k inn) where
  has j hj := by
    by_cases e : j = k
    · subst e
      rw [has_put_same ht.isMap (keyLit hk hn)]
      simp [metWith]
    · rw [has_put_other (by simp; omega), h.has j hj]
      simp [metWith, e]
  look j hj := by
    by_cases e : j = k
    · subst e
      rw [atKey_put_same ht.isMap (keyLit hk hn)]
      simp [heldWith]
    · rw [atKey_put_other (by simp; omega), h.look j hj]
      simp [heldWith, e]
  key x hx := by
    by_cases e : x = k
    · exact ⟨k, hk, e⟩
    · rw [has_put_other (by simp; omega)] at hx
      exact h.key x hx
  size := by
    rw [size_put ht, h.has k hk, h.size]
    rfl

theorem Few.empty {n : Nat} {M H : Nat → Bool} (h : ∀ k, k < n → M k = false ∧ H k = false) : Few (.map []) n 0 M H where
  has j hj := by rw [(h j hj).1]; rfl
  look j hj := by rw [(h j hj).2]; rfl
  key x hx := by cases hx
  size := rfl

theorem few_tail {w0 w w1 : World} {br n N wk : Nat} {M H : Nat → Bool} {k : Nat} {inn : Bool} {vn : Value} {bm c c' : Nat} {D : DataW Unit} (hk : k < n) (hn : n ≤ 1048576) (hb : Below br w0 w) (hl : Lies w0 w)
    (hbr : w.rowIs br 67 5 (rcell vn (.map (some bm)) (.slice none 0 0) (cntWith M N k) wk)) (hbm : br ≤ bm) (hD : Few D n N M H) (hown : w.ownsMap Try.prog 21 (plainElem Try.prog 4) bm c D)
    (hown1 : w1.ownsMap Try.prog 21 (plainElem Try.prog 4) bm c' (D.put (.int .i32 (k : Int)) (.lit (.bool (H k || inn))))) (hg : w.grownBy w1 (some bm)) : AddIs w0 br n N wk M H k inn vn w1 := by
  have hm : ∀ (cs : Array Value) (t : TypeId) (fr : Nat × Nat), w.heap[bm]? ≠ some (.cells cs t fr) := fun cs t fr e => by
    obtain ⟨es, clock, h, _⟩ := hown
    rw [e] at h
    cases h
  have hne : br ≠ bm := fun e => by
    subst e
    obtain ⟨cc, h, _⟩ := hbr
    exact hm _ _ _ h
  have hP := hD.put (hown.tidy key21) hk hn inn
  have hown2 := ownsMap_tight hown1
  rw [hP.size] at hown2
  exact ⟨hb.grown hg (Nat.le_of_lt (Nat.lt_of_le_of_lt hbm hown.lt)) (fun _ e => by cases e; exact hbm), hl.grown hg hm, _, _, hbr.of_block (hg.block br hbr.lt (fun e => hne (by cases e; rfl))),
    .few bm _ (by omega) hown2 hP⟩

set_option maxRecDepth 100000 in
set_option maxHeartbeats 1000000 in
theorem add_few (w : World) (br bg n N wk : Nat) (M H : Nat → Bool) (k : Nat) (inn : Bool) (vn : Value) (aN : Option Addr) (bm : Nat) (D : DataW Unit) (hn : n ≤ 262144) (hk : k < n) (hN : (N + 1) * 8 ≤ n) (hMH : ∀ k, H k = true → M k = true)
    (c0 : w.cell? ⟨bg, 0, none⟩ = some (.slice aN n n))
    (hbr : w.rowIs br 67 5 (rcell vn (.map (some bm)) (.slice none 0 0) N wk)) (hbm : br ≤ bm) (hown : w.ownsMap Try.prog 21 (plainElem Try.prog 4) bm N D) (hD : Few D n N M H) :
    Calls Try.prog 27 #[.pointer (some ⟨br, 1, none⟩), .pointer (some ⟨bg, 0, none⟩), .int .i32 (k : Int), .bool inn] w fun e w' => e = .returned (.tuple #[]) ∧ AddIs w br n N wk M H k inn vn w' := by
  have hq := fun w a n c n' c' => run_neq_slice_nil_any (P := Try.prog) w 59 64 a n c n' c' Try.underlying59
  have he := fun w a n c n' c' => Lib.run_eql_slice_nil (P := Try.prog) w 59 64 a n c n' c' Try.underlying59
  have hem := fun w r => run_eql_map_nil (P := Try.prog) w 58 21 4 r Try.underlying58
  have c1 : w.cell? ⟨br, 1, none⟩ = some (.map (some bm)) := hbr.cell (by decide)
  have c2 : w.cell? ⟨br, 2, none⟩ = some (.slice none 0 0) := hbr.cell (by decide)
  have c3 : w.cell? ⟨br, 3, none⟩ = some (.int .i64 N) := hbr.cell (by decide)
  have f3 : w.frozen? ⟨br, 3, none⟩ = false := hbr.frozen 3
  have hset : SetIs w (· < br) n N M H (.map (some bm)) (.slice none 0 0) := .few bm D (by omega) hown hD
  have hm := fun q => met_any (w.drewN q) (hset.drewN q) (by omega) hMH hk br c1 c2
  have hN1 := wrap_in ((N : Int) + 1) (by omega) (by omega)
  have hN2 := wrap_in (((N : Int) + 1) * 8) (by omega) (by omega)
  have hmax : N < maxLen := by unfold maxLen; omega
  have hN3 : ¬ (n : Int) < ((N : Int) + 1) * 8 := by omega
  have hne : bm ≠ br := fun e => by
    subst e
    obtain ⟨cc, h, _⟩ := hbr
    obtain ⟨es, clock, h', _⟩ := hown
    rw [h] at h'
    cases h'
  have hkey : keyOf Try.prog 21 (.int .i32 (k : Int)) = some (.int .i32 (k : Int)) := keyOf_int_mk Try.underlying21 (wfKey hk (by omega))
  have hlook : ∀ W, W.ownsMap Try.prog 21 (plainElem Try.prog 4) bm N D → (Instr.lookup 58 (.map (some bm)) (.int .i32 (k : Int)) false).run Try.prog W = .ok (.bool (H k)) W := fun W hW => by
    obtain ⟨v', ps', e', hv'⟩ := hW.lookup key21 Try.underlying58 (zero4 W) (plainElem_bool Try.underlying4 false) hkey
    rw [hD.look k hk] at hv'
    obtain ⟨a', rfl, ha'⟩ := plainElem_bool_inv Try.underlying4 hv'
    simp at ha'
    rw [← ha'.1] at e'
    exact e'
  cases hM : M k with
  | true =>
    have hl1 := fun q => hlook (w.drewN q) hown
    have HF : Hid (∀ q c' w1, w1.ownsMap Try.prog 21 (plainElem Try.prog 4) bm c' (D.put (.int .i32 (k : Int)) (.lit (.bool (H k || inn)))) → (w.drewN q).grownBy w1 (some bm) → AddIs w br n N wk M H k inn vn w1) := fun q c' w1 ho hg =>
      few_tail (w := w.drewN q) hk (by omega) (Kept.of_below (Below.refl br w) |>.drewN q |>.below) (Lies.refl w) (by rw [cntWith, hM]; exact hbr) hbm hD hown ho hg
    rw [hM] at hm
    obtain ⟨vb, hvb⟩ : ∃ vb, vb = (H k || inn) := ⟨_, rfl⟩
    rw [← hvb] at HF
    cases hH : H k
    all_goals
      rw [hH] at hl1 hvb
      simp only [Bool.false_or, Bool.true_or] at hvb
      subst hvb
      clear hset hlook hM hH hD hbr
      go_enter Try.func27, Try.ntmps27
      go_wp2_with fail
      go_quiet (fail)
      go_wp2_with fail
      refine Calls.mono (hm nq) ?_
      rintro e w1 ⟨rfl, rfl⟩
      clear hm
      have hl3 := hl1 (nq + 1)
      obtain ⟨w1, hrun, hown1, hg1⟩ := World.ownsMap.update (w := w.drewN (nq + 1)) hown key21 Try.underlying58 hmax hkey (plainElem_bool Try.underlying4 _)
      have HF' := HF.out (nq + 1) _ w1 hown1 hg1
      clear hl1 hown1 hg1 HF hown
      go_wp2_with fail
      go_big_region
      all_goals
        go_wp2_with fail
        go_end0
        exact ⟨rfl, HF'⟩
  | false =>
    have hH : H k = false := by
      cases h : H k with
      | false => rfl
      | true => rw [hMH k h] at hM; cases hM
    have hl1 : ∀ q, (Instr.lookup 58 (.map (some bm)) (.int .i32 (k : Int)) false).run Try.prog ((w.drewN q).setCell ⟨br, 3, none⟩ (.int .i64 ((N : Int) + 1))).drew = .ok (.bool false) ((w.drewN q).setCell ⟨br, 3, none⟩ (.int .i64 ((N : Int) + 1))).drew := fun q => by
      have := hlook ((w.drewN q).setCell ⟨br, 3, none⟩ (.int .i64 ((N : Int) + 1))).drew (World.ownsMap.setCell (w := w.drewN q) (a := ⟨br, 3, none⟩) hown hne _)
      rw [hH] at this
      exact this
    have HF : Hid (∀ q c' w1, w1.ownsMap Try.prog 21 (plainElem Try.prog 4) bm c' (D.put (.int .i32 (k : Int)) (.lit (.bool inn))) → ((w.drewN q).setCell ⟨br, 3, none⟩ (.int .i64 ((N : Int) + 1))).drew.grownBy w1 (some bm) → AddIs w br n N wk M H k inn vn w1) := fun q c' w1 ho hg =>
      few_tail (w := ((w.drewN q).setCell ⟨br, 3, none⟩ (.int .i64 ((N : Int) + 1))).drew) hk (by omega) ((Kept.of_below (Below.refl br w) |>.drewN q |>.below).setCell (Nat.le_refl _) _).drew ((Lies.refl w).setRow (b := w.drewN q) hbr (.inl rfl) _ _) (by rw [cntWith, hM]; exact row_n (N' := N + 1) (w := w.drewN q) hbr) hbm hD (World.ownsMap.setCell (w := w.drewN q) (a := ⟨br, 3, none⟩) hown hne _) (by rw [hH, Bool.false_or]; exact ho) hg
    rw [hM] at hm
    clear hset hlook hM hH hD hbr
    go_enter Try.func27, Try.ntmps27
    go_wp2_with fail
    go_quiet (fail)
    go_wp2_with fail
    refine Calls.mono (hm nq) ?_
    rintro e w1 ⟨rfl, rfl⟩
    clear hm
    have hl3 := hl1 nq
    obtain ⟨w1, hrun, hown1, hg1⟩ := World.ownsMap.update (w := ((w.drewN nq).setCell ⟨br, 3, none⟩ (.int .i64 ((N : Int) + 1))).drew) (World.ownsMap.setCell (w := w.drewN nq) (a := ⟨br, 3, none⟩) hown hne _) key21 Try.underlying58 hmax hkey (plainElem_bool Try.underlying4 inn)
    have HF' := HF.out nq _ w1 hown1 hg1
    clear hl1 hown1 hg1 HF hown
    go_wp2_with fail
    go_big_region
    all_goals
      go_wp2_with fail
      go_end0
      exact ⟨rfl, HF'⟩

set_option maxRecDepth 100000 in
set_option maxHeartbeats 1000000 in
theorem add_fresh (w : World) (br bg n wk : Nat) (M H : Nat → Bool) (k : Nat) (inn : Bool) (vn : Value) (aN : Option Addr) (hn : n ≤ 262144) (hk : k < n) (hN : 8 ≤ n) (hMH : ∀ k, H k = true → M k = true)
    (c0 : w.cell? ⟨bg, 0, none⟩ = some (.slice aN n n))
    (hbr : w.rowIs br 67 5 (rcell vn (.map none) (.slice none 0 0) 0 wk)) (hno : ∀ k, k < n → M k = false ∧ H k = false) :
    Calls Try.prog 27 #[.pointer (some ⟨br, 1, none⟩), .pointer (some ⟨bg, 0, none⟩), .int .i32 (k : Int), .bool inn] w fun e w' => e = .returned (.tuple #[]) ∧ AddIs w br n 0 wk M H k inn vn w' := by
  have hq := fun w a n c n' c' => run_neq_slice_nil_any (P := Try.prog) w 59 64 a n c n' c' Try.underlying59
  have he := fun w a n c n' c' => Lib.run_eql_slice_nil (P := Try.prog) w 59 64 a n c n' c' Try.underlying59
  have hem := fun w r => run_eql_map_nil (P := Try.prog) w 58 21 4 r Try.underlying58
  have hmm := @run_makeMap Try.prog
  have c1 : w.cell? ⟨br, 1, none⟩ = some (.map none) := hbr.cell (by decide)
  have c2 : w.cell? ⟨br, 2, none⟩ = some (.slice none 0 0) := hbr.cell (by decide)
  have c3 : w.cell? ⟨br, 3, none⟩ = some (.int .i64 0) := hbr.cell (by decide)
  have f3 : w.frozen? ⟨br, 3, none⟩ = false := hbr.frozen 3
  have f1 : w.frozen? ⟨br, 1, none⟩ = false := hbr.frozen 1
  have hlt := hbr.lt
  have hset : SetIs w (· < br) n 0 M H (.map none) (.slice none 0 0) := .fresh hno rfl
  have hm := fun q => met_any (w.drewN q) (hset.drewN q) (by omega) hMH hk br c1 c2
  have hN3 : ¬ (n : Int) < 8 := by omega
  have hmax : 0 < maxLen := by unfold maxLen; omega
  have hkey : keyOf Try.prog 21 (.int .i32 (k : Int)) = some (.int .i32 (k : Int)) := keyOf_int_mk Try.underlying21 (wfKey hk (by omega))
  have hM := (hno k hk).1
  have hH := (hno k hk).2
  obtain ⟨W, hW⟩ : ∃ W : Nat → World, W = fun q => ((((w.drewN q).setCell ⟨br, 3, none⟩ (.int .i64 1)).setCell ⟨br, 1, none⟩ (.map (some w.heap.size))).alloc (.map #[] 0)).drew := ⟨_, rfl⟩
  have hnb : ∀ q, (((w.drewN q).setCell ⟨br, 3, none⟩ (.int .i64 1)).setCell ⟨br, 1, none⟩ (.map (some w.heap.size))).heap.size = w.heap.size := fun q => by rw [nblk_setCell, nblk_setCell]; rfl
  have hownW : ∀ q, (W q).ownsMap Try.prog 21 (plainElem (H := Unit) Try.prog 4) w.heap.size 0 (.map []) := fun q => by
    have h1 := World.ownsMap_made (((w.drewN q).setCell ⟨br, 3, none⟩ (.int .i64 1)).setCell ⟨br, 1, none⟩ (.map (some w.heap.size))) Try.prog 21 (plainElem (H := Unit) Try.prog 4)
    rw [hnb] at h1
    rw [hW]
    exact h1.drew
  have hl1 : ∀ q, (Instr.lookup 58 (.map (some w.heap.size)) (.int .i32 (k : Int)) false).run Try.prog (W q) = .ok (.bool false) (W q) := fun q => by
    obtain ⟨v', ps', e', hv'⟩ := (hownW q).lookup key21 Try.underlying58 (zero4 (W q)) (plainElem_bool Try.underlying4 false) hkey
    obtain ⟨a', rfl, ha'⟩ := plainElem_bool_inv Try.underlying4 hv'
    have h0 : (DataW.map [] : DataW Unit).atKey (.int .i32 (k : Int)) (.lit (.bool false)) = .lit (.bool false) := rfl
    rw [h0] at ha'
    cases a' with
    | false => exact e'
    | true => simp at ha'
  have HF0 : (∀ q c' w1, w1.ownsMap Try.prog 21 (plainElem Try.prog 4) w.heap.size c' ((DataW.map [] : DataW Unit).put (.int .i32 (k : Int)) (.lit (.bool inn))) → (W q).grownBy w1 (some w.heap.size) → AddIs w br n 0 wk M H k inn vn w1) := fun q c' w1 ho hg => by
    have hr1 := row_n (N' := 1) (w := w.drewN q) hbr
    have hb1 : Below br w (W q) := by
      rw [hW]
      exact ((((Kept.of_below (Below.refl br w) |>.drewN q |>.below).setCell (Nat.le_refl _) _).setCell (Nat.le_refl _) _).alloc (by rw [hnb]; omega) _).drew
    have hl : Lies w (W q) := by
      rw [hW]
      exact (((Lies.refl w).setRow (b := w.drewN q) hbr (.inl rfl) 3 _).setRow hr1 (.inl rfl) 1 _).alloc _
    have hrW : (W q).rowIs br 67 5 (rcell vn (.map (some w.heap.size)) (.slice none 0 0) (cntWith M 0 k) wk) := by
      rw [cntWith, hM, hW]
      exact (row_few hr1).alloc _
    exact few_tail (w := W q) hk (by omega) hb1 hl hrW (by omega) (Few.empty hno) (hownW q) (by rw [hH, Bool.false_or]; exact ho) hg
  have HF : Hid _ := HF0
  rw [hM] at hm
  clear hset hM hH hbr hno hnb HF0
  go_enter Try.func27, Try.ntmps27
  go_wp2_with fail
  go_quiet (fail)
  go_wp2_with fail
  refine Calls.mono (hm nq) ?_
  rintro e w1 ⟨rfl, rfl⟩
  clear hm
  have hl3 := hl1 nq
  obtain ⟨w1, hrun, hown1, hg1⟩ := World.ownsMap.update (hownW nq) key21 Try.underlying58 hmax hkey (plainElem_bool Try.underlying4 inn)
  have HF' := HF.out nq _ w1 hown1 hg1
  clear hl1 hown1 hg1 HF hownW
  subst hW
  go_wp2_with fail
  go_big_region
  all_goals
    go_wp2_with fail
    go_end0
    exact ⟨rfl, HF'⟩

end Go.Proofs.Qxb6619590a
