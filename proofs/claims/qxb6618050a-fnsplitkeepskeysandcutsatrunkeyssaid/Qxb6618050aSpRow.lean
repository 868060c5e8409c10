/-
  Statement 1: stores into a row that is known whole: storeCells, copy, clear (no walk).
-/
import Derived.Test.Qxb6618050aSpEnds
import Derived.Laws.CopyOwn
namespace Go.Proofs.Qxb6618050a
open Go.RowKit Go.Deep

/-- w' is w but for the contents of block g. -/
structure But (g : Nat) (w w' : World) : Prop where
  os : w'.os = w.os
  tape : w'.tape = w.tape
  output : w'.output = w.output
  size : w'.heap.size = w.heap.size
  block : ∀ k, k ≠ g → w'.heap[k]? = w.heap[k]?

theorem But.refl (g : Nat) (w : World) : But g w w := ⟨rfl, rfl, rfl, rfl, fun _ _ => rfl⟩
theorem But.cell {g : Nat} {w w' : World} (h : But g w w') {a : Addr} (ha : a.block ≠ g) : w'.cell? a = w.cell? a := World.cell?_of_block (w := w) (h.block _ ha)
theorem But.frozen {g : Nat} {w w' : World} (h : But g w w') {a : Addr} (ha : a.block ≠ g) : w'.frozen? a = w.frozen? a := World.frozen?_of_block (w := w) (h.block _ ha)
theorem But.below {g B : Nat} {w0 w w' : World} (h : But g w w') (hb : Below B w0 w) (hg : B ≤ g) : Below B w0 w' :=
  hb.trans ⟨h.os, h.tape, h.output, Nat.le_of_eq h.size.symm, fun k hk => h.block k (by omega)⟩
theorem But.row {g : Nat} {w w' : World} (h : But g w w') {b : Nat} {t : TypeId} {n : Nat} {f : Nat → Value} (hr : w.rowIs b t n f) (hb : b ≠ g) : w'.rowIs b t n f := hr.of_block (h.block b hb)

/-- f with vs laid over it from place o on. -/
def over (f : Nat → Value) (o : Nat) (vs : List Value) : Nat → Value := fun m => if o ≤ m ∧ m < o + vs.length then vs.getD (m - o) undef else f m

variable {P : Program}

theorem storeRow {w : World} {g : Nat} {t : TypeId} {N : Nat} {f : Nat → Value} (h : w.rowIs g t N f) (o : Nat) (vs : List Value) (hfit : o + vs.length ≤ N) (h1 : ∀ v ∈ vs, v.oneCell' = true) :
    ∃ w', (storeCells ⟨g, o, none⟩ vs).run P w = .ok () w' ∧ w'.rowIs g t N (over f o vs) ∧ But g w w' := by
  obtain ⟨cur, hb, hsz, hc⟩ := h
  have hrun := run_storeCells_at P g o t vs 0 cur w hb (by omega) h1
  refine ⟨_, hrun, ⟨_, setRow_heap w g _ _ t _ hb, ?_, fun m hm => ?_⟩, ⟨rfl, rfl, rfl, by simp, fun k hk => setRow_other w g k _ hk⟩⟩
  · simp; omega
  · have hcm := hc m hm
    simp only [over, Nat.add_zero]
    by_cases h2 : o ≤ m ∧ m < o + vs.length
    · rw [if_pos h2]
      have e1 : (cur.toList.take o ++ vs ++ cur.toList.drop (o + vs.length)).toArray[m]? = vs[m - o]? := by
        simp only [List.getElem?_toArray]
        rw [List.append_assoc, List.getElem?_append_right (by simp; omega), List.getElem?_append_left (by simp; omega)]
        congr 1
        simp; omega
      rw [e1, List.getD_eq_getElem?_getD, List.getElem?_eq_getElem (by omega)]
      rfl
    · rw [if_neg h2, ← hcm]
      simp only [List.getElem?_toArray]
      by_cases h3 : m < o
      · rw [List.append_assoc, List.getElem?_append_left (by simp; omega), List.getElem?_take_of_lt h3]
        simp
      · rw [List.getElem?_append_right (by simp; omega), List.getElem?_drop]
        simp only [List.length_append, List.length_take, Array.length_toList]
        rw [show o + vs.length + (m - (min o cur.size + vs.length)) = m by omega]
        simp

theorem copyRow {w : World} {g : Nat} {t : TypeId} {N : Nat} {f : Nat → Value} (h : w.rowIs g t N f) (dT sT ty elem : TypeId) (s : Nat) (hu : P.underlying dT = some (.slice elem)) (hsz : (P.info? elem).map (·.size) = some s) (hs0 : 0 < s)
    (dp sp : Option Addr) (dLen dCap sLen sCap o : Nat) (cs : List Value) (hn : cs.length = Nat.min sLen dLen * s)
    (hpos : 0 < cs.length → dp = some ⟨g, o, none⟩ ∧ ∃ ad, sp = some ad ∧ ∀ j v, cs[j]? = some v → w.cell? (ad.add j) = some v) (hfit : o + cs.length ≤ N) (h1 : ∀ v ∈ cs, v.oneCell' = true) :
    ∃ w', (Builtin.copy_ #[dT, sT] ty #[.slice dp dLen dCap, .slice sp sLen sCap]).run P w = .ok (goInt (Nat.min sLen dLen)) w' ∧ w'.rowIs g t N (over f o cs) ∧ But g w w' := by
  cases hq : P.info? elem with
  | none => simp [hq] at hsz
  | some i =>
    have hi : i.size = s := by simpa [hq] using hsz
    by_cases h0 : cs.length = 0
    · obtain rfl : cs = [] := List.eq_nil_of_length_eq_zero h0
      have hm : Nat.min sLen dLen = 0 := by
        have : Nat.min sLen dLen * s = 0 := by simpa using hn.symm
        rcases Nat.mul_eq_zero.1 this with h | h
        · exact h
        · omega
      refine ⟨w, ?_, h.congr (fun m _ => ?_), But.refl _ _⟩
      · cases dp <;> cases sp <;> simp [Builtin.copy_, run_underlying hu, Builtin.lenOf, Builtin.firstCells, sizeOf, typeInfo, hq, hm, storeCells, loadCells, loadCellsFrom]
      · simp only [over, List.length_nil]
        rw [if_neg (by omega)]
    · obtain ⟨rfl, ad, rfl, hsrc⟩ := hpos (by omega)
      have hl := run_loadCells_list (P := P) w ad cs hsrc
      obtain ⟨w', hst, hr, hbut⟩ := storeRow (P := P) h o cs hfit h1
      refine ⟨w', ?_, hr, hbut⟩
      rw [hn] at hl
      simp [Builtin.copy_, run_underlying hu, Builtin.lenOf, Builtin.firstCells, sizeOf, typeInfo, hq, hi, hl, hst]

theorem clearRow {w : World} {g : Nat} {t : TypeId} {N : Nat} {f : Nat → Value} (h : w.rowIs g t N f) (T ty e : TypeId) (z : Value) (hu : P.underlying T = some (.slice e)) (hv : ∀ w, (zeroValue e).run P w = .ok z w) (hz : z.cells = #[z]) (h1 : z.oneCell' = true)
    (ap : Option Addr) (n c o : Nat) (hpos : 0 < n → ap = some ⟨g, o, none⟩) (hfit : o + n ≤ N) :
    ∃ w', (Builtin.clear_ #[T] ty #[.slice ap n c]).run P w = .ok (.tuple #[]) w' ∧ w'.rowIs g t N (over f o (List.replicate n z)) ∧ But g w w' := by
  by_cases h0 : n = 0
  · subst h0
    refine ⟨w, ?_, h.congr (fun m _ => ?_), But.refl _ _⟩
    · cases ap <;> simp [Builtin.clear_, run_underlying hu]
    · simp only [over, List.replicate_zero, List.length_nil]
      rw [if_neg (by omega)]
  · obtain rfl := hpos (by omega)
    have hzc : (Builtin.zeroCells z.cells n).toList = List.replicate n z := by
      rw [hz]
      simp [Builtin.zeroCells]
      apply List.ext_getElem
      · simp
      · intro i h1 h2
        simp [Nat.mod_one]
    obtain ⟨w', hst, hr, hbut⟩ := storeRow (P := P) h o (List.replicate n z) (by simpa using hfit) (by intro v hv'; rw [List.eq_of_mem_replicate hv']; exact h1)
    refine ⟨w', ?_, hr, hbut⟩
    obtain ⟨m, rfl⟩ : ∃ m, n = m + 1 := ⟨n - 1, by omega⟩
    simp [Builtin.clear_, run_underlying hu, hv, hzc, hst]

/-- A copy as one step of a region that draws: its run is known. -/
theorem step_copy {ops : Array Oper} {o : Oper} {a : Act} {w : World} {K : Act → World → Prop} {Q : Exit → Act → World → Prop} {E : Prop} (hgd : o.guard = none) (d s : Operand) (dT sT : TypeId)
    (ho : o.op = .call { callee := .builtin .copy, args := #[d, s], argTypes := #[dT, sT] }) (vd vs v : Value) (hd : a.eval d = vd) (hs : a.eval s = vs) (w' : World)
    (hrun : (Builtin.copy_ #[dT, sT] o.type #[vd, vs]).run P w = .ok v w') (h : K (a.put o.dst v) w') :
    if Region.wanted o (yielded ops a.tmps) = true then Oper.wp P o a w K Q else E := by
  have hw : Region.wanted o (yielded ops a.tmps) = true := by simp [Region.wanted, hgd]
  rw [if_pos hw]
  unfold Oper.wp
  simp [execOp, ho, resolve, invoke, builtin, hd, hs, hrun, Result.andThen]
  exact h

theorem wrap_in (x : Int) (h0 : -1000000000000 ≤ x) (h1 : x ≤ 1000000000000) : IntKind.i64.wrap x = x := by
  rw [IntKind.wrap_i64]
  omega

/-- What is owned, elements of three cells, not none of them: the whole row. -/
theorem owned_row {w : World} {base : Nat} {e : TypeId} {v : Value} {n : Nat} {xs : List Value} (h : w.ownsRow base e 3 v (n + 1) xs) :
    ∃ g cap f, v = .slice (some ⟨g, 0, none⟩) (n + 1) cap ∧ base ≤ g ∧ n + 1 ≤ cap ∧ cap ≤ maxLen ∧ w.rowIs g e (cap * 3) f ∧ ∀ m u, xs[m]? = some u → f m = u := by
  obtain ⟨hl, ⟨_, h0⟩ | ⟨g, cap, cur, rfl, hb, hg, hnc, hmx, hcs, hx⟩⟩ := h
  · omega
  · refine ⟨g, cap, fun m => cur.getD m undef, rfl, hb, hnc, hmx, ⟨cur, hg, hcs, fun m hm => ?_⟩, fun m u hm => ?_⟩
    · simp [hcs, hm]
    · subst hx
      obtain ⟨hk1, hk2⟩ := List.getElem?_eq_some_iff.1 hm
      rw [List.getElem?_take_of_lt (by simp at hk1; omega)] at hm
      simp at hm
      simp [hm]

/-- What is owned, as a slice and its elements. -/
theorem owned_shape {w : World} {base : Nat} {e : TypeId} {v : Value} {n : Nat} {xs : List Value} (h : w.ownsRow base e 1 v n xs) :
    ∃ ao cap, v = .slice ao n cap ∧ n ≤ cap ∧ (∀ k u, xs[k]? = some u → ∃ b, ao = some ⟨b, 0, none⟩ ∧ base ≤ b ∧ b < w.heap.size ∧ w.cell? ⟨b, k, none⟩ = some u) ∧ (ao = none → n = 0 ∧ cap = 0) := by
  obtain ⟨hl, ⟨rfl, rfl⟩ | ⟨g, cap, cur, rfl, hb, hg, hnc, _, hcs, hx⟩⟩ := h
  · obtain rfl : xs = [] := List.eq_nil_of_length_eq_zero (by simpa using hl)
    exact ⟨none, 0, rfl, Nat.le_refl _, fun k u hk => by simp at hk, fun _ => ⟨rfl, rfl⟩⟩
  · refine ⟨some ⟨g, 0, none⟩, cap, rfl, hnc, fun k u hk => ⟨g, rfl, hb, (Array.getElem?_eq_some_iff.1 hg).1, ?_⟩, fun h => by cases h⟩
    subst hx
    obtain ⟨hk1, hk2⟩ := List.getElem?_eq_some_iff.1 hk
    rw [List.getElem?_take_of_lt (by simp at hk1; omega)] at hk
    simpa [World.cell?, hg] using hk

end Go.Proofs.Qxb6618050a
