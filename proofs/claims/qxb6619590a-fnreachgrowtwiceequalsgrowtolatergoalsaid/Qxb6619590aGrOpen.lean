/-
  Statements 4 and 5: from an argument's reading to what the walk asks (no walk).
-/
import Derived.Test.Qxb6619590aGrArgs
import Derived.ProofKit
import Derived.ChangeSlices
import Derived.WideKeyElems2
namespace Go.Proofs.Qxb6619590a
open Go.ChangeShapes Go.WideShapes Go.ChangeAt Go.RowKit Go.Deep Go.Maps Go.WideMaps Go.WideElems

theorem Try.cells21 : Try.prog.cellsOf 21 = 1 := by kernel_rfl
theorem Try.cells22 : Try.prog.cellsOf 22 = 1 := by kernel_rfl
theorem Try.cells30 : Try.prog.cellsOf 30 = 2 := by kernel_rfl

theorem cell_plain {w : World} {a : Addr} {i : Nat} {v v0 : Value} (h0 : w.cell? (a.add 0) = some v0) (h : w.cell? (a.add i) = some v) : ∃ b o, a = ⟨b, o, none⟩ ∧ b < w.heap.size ∧ w.cell? ⟨b, o + i, none⟩ = some v := by
  obtain ⟨b, o, spot⟩ := a
  have hspot : spot = none := by simpa [Addr.add] using World.cell?_spot h0
  subst hspot
  rw [Addr.add_lit] at h
  exact ⟨b, o, rfl, World.block_lt_of_cell? _ _ h, h⟩

section
variable {H : Type} {enc : TypeId × Value → H} {w : World}

/-- A slice of numbers as it was read. -/
theorem open_sl {fuel : Nat} {v : Value} {x : DataW H × List MemPlace} (h : DataW.trod enc Try.prog w 0 (fun _ => true) true fuel 22 [v] = some x) :
    ∃ a n c f, v = .slice a n c ∧ Sl w a n c f ∧ n ≤ 9223372036854775807 := by
  rcases open_ints Try.underlying22 Try.underlying21 Try.cells21 h with ⟨hv, _⟩ | ⟨a, n, c, zs, hv, hb, hl, hm, hz, _, hcell, hwf⟩
  · simp at hv
    subst hv
    exact ⟨none, 0, 0, fun _ => 0, rfl, ⟨fun i hi => absurd hi (Nat.not_lt_zero i), fun _ => ⟨rfl, rfl⟩, fun i hi => absurd hi (Nat.not_lt_zero i)⟩, by omega⟩
  · simp at hv
    subst hv
    simp only [if_true] at hz
    refine ⟨some a, n, c, fun k => zs.getD k 0, rfl, ⟨fun i hi => ?_, fun h => (by cases h), fun i hi => ?_⟩, by unfold maxLen at hm; omega⟩
    · obtain ⟨b, o, e, hlt, hc⟩ := cell_plain (hcell 0 (by omega)) (hcell i (by omega))
      exact ⟨b, o, by rw [e], hlt, hc⟩
    · have hi' : i < zs.length := by omega
      show -2147483648 ≤ zs.getD i 0 ∧ zs.getD i 0 ≤ 2147483647
      rw [List.getD_eq_getElem?_getD, List.getElem?_eq_getElem hi']
      exact of_wf32 (hwf _ (List.getElem_mem hi'))

theorem trod_array2 {P : Program} {base : Nat} {spare : Nat → Bool} {held : Bool} {t e : TypeId} {fuel : Nat} {c0 c1 : Value} {x : DataW H × List MemPlace} (ht : P.underlying t = some (.array 2 e)) (hce : P.cellsOf e = 1)
    (h : DataW.trod enc P w base spare held fuel t [c0, c1] = some x) :
    ∃ y0 y1 n, x = (.agg [y0.1, y1.1], y0.2 ++ y1.2) ∧ DataW.trod enc P w base spare held n e [c0] = some y0 ∧ DataW.trod enc P w base spare held n e [c1] = some y1 := by
  cases fuel with
  | zero => simp [DataW.trod] at h
  | succ n =>
    unfold DataW.trod at h
    rw [ht] at h
    have r2 : List.range 2 = [0, 1] := rfl
    simp [r2, hce] at h
    obtain ⟨_, h⟩ := h
    cases h0 : DataW.trod enc P w base spare held n e [c0] with
    | none => simp [h0] at h
    | some y0 =>
      cases h1 : DataW.trod enc P w base spare held n e [c1] with
      | none => simp [h0, h1] at h
      | some y1 =>
        simp [h0, h1] at h
        exact ⟨y0, y1, n, h.symm, h0, h1⟩

/-- A pair of slices of numbers as it was read. -/
theorem open_pair {r : Reach} {b0 : Nat} {v : Value} {d : DataW H} {p : List MemPlace} (hv : Value.okWide Try.prog w r b0 30 v) (h : DataW.Trod enc Try.prog w 0 (fun _ => true) true 30 v d p) :
    ∃ a0 n0 c0 f0 a1 n1 c1 f1, v = .agg #[.slice a0 n0 c0, .slice a1 n1 c1] ∧ Sl w a0 n0 c0 f0 ∧ n0 ≤ 9223372036854775807 ∧ Sl w a1 n1 c1 f1 ∧ n1 ≤ 9223372036854775807 := by
  simp only [Value.okWide, Try.underlying30] at hv
  obtain ⟨cs, rfl, hsz, _⟩ := hv
  rw [Try.cells30] at hsz
  obtain ⟨x0, x1, rfl⟩ : ∃ x0 x1, cs = #[x0, x1] := by
    obtain ⟨l⟩ := cs
    match l, hsz with
    | [x0, x1], _ => exact ⟨x0, x1, rfl⟩
  obtain ⟨fuel, hf⟩ := h
  obtain ⟨y0, y1, n, _, h0, h1⟩ := trod_array2 Try.underlying30 Try.cells22 (by simpa [Value.cells] using hf)
  obtain ⟨a0, n0, c0, f0, rfl, hs0, hl0⟩ := open_sl h0
  obtain ⟨a1, n1, c1, f1, rfl, hs1, hl1⟩ := open_sl h1
  exact ⟨a0, n0, c0, f0, a1, n1, c1, f1, rfl, hs0, hl0, hs1, hl1⟩

/-- A map as it was read. -/
theorem open_mp {r : Reach} {b0 : Nat} {v : Value} {d : DataW H} {p : List MemPlace} (hv : Value.okWide Try.prog w r b0 41 v) (h : DataW.Trod enc Try.prog w 0 (fun _ => true) true 41 v d p) :
    ∃ mo ml lv lb, v = .map mo ∧ MapR w (.map mo) ml lv lb ∧ ml ≤ 9223372036854775807 := by
  obtain ⟨mo, rfl⟩ := okWide_map Try.underlying41 hv
  obtain ⟨fuel, hf⟩ := h
  rcases open_map Try.underlying41 hf with ⟨hcs, _⟩ | ⟨bm, es, clock, m, rfl, hcs, hb, _, F, _⟩
  · simp [Value.cells] at hcs
    subst hcs
    exact ⟨none, 0, _, _, rfl, mapR_nil w, by omega⟩
  · simp [Value.cells] at hcs
    subst hcs
    have hown := World.ownsMap_of_fit (R := plainElem Try.prog 21) hb F (fun x _ z hz => elemAt_plainElem_int Try.underlying21 hz)
    have h1 := hown.size_le
    have h2 := F.size
    unfold maxLen at h2
    exact ⟨some bm, _, _, _, rfl, mapR_some hown, by omega⟩

end
end Go.Proofs.Qxb6619590a
