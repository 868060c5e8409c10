/-
  Statements 4 and 5: how the argument 'numbers' reads.
-/
import Derived.Test.Qxb6619590aGrSame
import Derived.Test.Qxb6619590aGrCheck
namespace Go.Proofs.Qxb6619590a
open Go.RowKit Go.Deep Go.Maps

structure MapR (w : World) (m : Value) (ml : Nat) (lv : Int → Int) (lb : Int → Bool) : Prop where
  len : ∀ W, Below w.heap.size w W → (Builtin.len_ #[41] 3 #[m]).run Try.prog W = .ok (.int .i64 ml) W
  look : ∀ W, Below w.heap.size w W → ∀ x, -2147483648 ≤ x → x ≤ 2147483647 → (Instr.lookup 41 m (.int .i32 x) true).run Try.prog W = .ok (.tuple #[.int .i32 (lv x), .bool (lb x)]) W ∧ -2147483648 ≤ lv x ∧ lv x ≤ 2147483647
  keys : ∀ n vN, HeadM n vN ml lv lb → ∀ x, lb x = true → ∃ i, i < n ∧ vN i = x
  zero : ∀ x, -2147483648 ≤ x → x ≤ 2147483647 → lb x = false → lv x = 0

theorem wf32 {x : Int} (h0 : -2147483648 ≤ x) (h1 : x ≤ 2147483647) : (Lit.int .i32 x).wf = true := by
  have e1 : IntKind.i32.min = -2147483648 := rfl
  have e2 : IntKind.i32.max = 2147483647 := rfl
  simp only [Lit.wf, e1, e2, Bool.and_eq_true, decide_eq_true_eq]
  omega
theorem of_wf32 {x : Int} (h : (Lit.int .i32 x).wf = true) : -2147483648 ≤ x ∧ x ≤ 2147483647 := by
  have e1 : IntKind.i32.min = -2147483648 := rfl
  have e2 : IntKind.i32.max = 2147483647 := rfl
  simpa only [Lit.wf, e1, e2, Bool.and_eq_true, decide_eq_true_eq] using h

theorem mapR_nil (w : World) : MapR w (.map none) 0 (fun _ => 0) (fun _ => false) where
  len W _ := Maps.len_nil Try.underlying41 3
  look W _ x h0 h1 := by
    have e := Maps.look_nil (w := W) true key21 Try.underlying41 (zero21 W) (keyOf_int_mk Try.underlying21 (wf32 h0 h1))
    exact ⟨by simpa using e, by decide, by decide⟩
  keys n vN h x hx := by cases hx
  zero x _ _ _ := rfl

def intOf {H : Type} : DataW H → Int
  | .lit (.int _ c) => c
  | _ => 0

theorem has_mem {H : Type} {es : List (Lit × DataW H)} {k : Lit} (h : Maps.has (.map es) k = true) : k ∈ es.map (·.1) := by
  rw [has_eq, List.any_eq_true] at h
  obtain ⟨p, hp, hk⟩ := h
  have e : p.1 = k := by
    by_cases e : p.1 = k
    · exact e
    · rw [sameKey_ne e] at hk; cases hk
  rw [← e]
  exact List.mem_map_of_mem hp

theorem mapR_some {H : Type} {w : World} {bm c : Nat} {D : DataW H} (h : w.ownsMap Try.prog 21 (plainElem Try.prog 21) bm c D) :
    MapR w (.map (some bm)) (Maps.size D) (fun x => intOf (D.atKey (.int .i32 x) (.lit (.int .i32 0)))) (fun x => Maps.has D (.int .i32 x)) where
  len W hb := (h.kept (below_grown hb) (by simp)).len Try.underlying41 3
  look W hb x h0 h1 := by
    have hW := h.kept (below_grown hb) (by simp)
    obtain ⟨v, ps, e, hv⟩ := hW.look_ok key21 Try.underlying41 (zero21 W) (plainElem_int Try.underlying21 (by decide)) (keyOf_int_mk Try.underlying21 (wf32 h0 h1))
    obtain ⟨y, rfl, hy, hwf⟩ := plainElem_int_inv Try.underlying21 hv
    simp only [Prod.mk.injEq] at hy
    have hr := of_wf32 hwf
    simp only [hy.1, intOf]
    exact ⟨e, hr.1, hr.2⟩
  keys n vN hh x hx := by
    classical
    obtain ⟨es, rfl, hpw⟩ := h.tidy key21
    obtain ⟨hs, hall⟩ := hh
    have hp := pigeon ((List.range n).map fun i => Lit.int .i32 (vN i)) (es.map (·.1))
      (nodup_map_range _ n (fun i j hi hj e => by
        have e' : vN i = vN j := by simpa using e
        have h1 := (hall i hi).2
        have h2 := (hall j hj).2
        rw [e', h2] at h1
        omega))
      (fun y hy => by
        obtain ⟨i, hi, rfl⟩ := List.mem_map.1 hy
        exact has_mem (hall i (List.mem_range.1 hi)).1)
      (by
        have : es.length = n := hs
        simp [this])
      (.int .i32 x) (has_mem hx)
    obtain ⟨i, hi, e⟩ := List.mem_map.1 hp
    exact ⟨i, List.mem_range.1 hi, by simpa using e⟩
  zero x h0 h1 hx := by
    simp only [atKey_of_not_has hx, intOf]

end Go.Proofs.Qxb6619590a
