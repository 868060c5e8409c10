/-
  Statement 1: from an argument's reading to a grid (no walk).
-/
import Derived.Test.Qxb6618050aSpBase
import Derived.ProofKit
import Derived.Deep.Strs
import Derived.ChangeSlices
namespace Go.Proofs.Qxb6618050a
open Go.ChangeShapes Go.WideShapes Go.ChangeAt Go.RowKit Go.Deep

theorem Try.cells26 : Try.prog.cellsOf 26 = 1 := by kernel_rfl
theorem Try.cells36 : Try.prog.cellsOf 36 = 1 := by kernel_rfl
theorem Try.cells9 : Try.prog.cellsOf 9 = 1 := by kernel_rfl
theorem Try.cells5 : Try.prog.cellsOf 5 = 1 := by kernel_rfl

theorem cell_plain {w : World} {a : Addr} {i : Nat} {v v0 : Value} (h0 : w.cell? (a.add 0) = some v0) (h : w.cell? (a.add i) = some v) : ∃ b o, a = ⟨b, o, none⟩ ∧ b < w.heap.size ∧ w.cell? ⟨b, o + i, none⟩ = some v := by
  obtain ⟨b, o, spot⟩ := a
  have hspot : spot = none := by simpa [Addr.add] using World.cell?_spot h0
  subst hspot
  rw [Addr.add_lit] at h
  exact ⟨b, o, rfl, World.block_lt_of_cell? _ _ h, h⟩

section
variable {H : Type} {enc : TypeId × Value → H} {w : World}

theorem open_keys {fuel : Nat} {a0 : Option Addr} {len cap : Nat} {x : DataW H × List MemPlace} (h : DataW.trod enc Try.prog w 0 (fun _ => true) true fuel 22 [.slice a0 len cap] = some x) :
    ∃ (A : Nat → Option Addr) (L C : Nat → Nat) (S : Nat → Nat → ByteArray), Grid w w.heap.size a0 len A L C (fun j k => .string (S j k)) ∧ (∀ j k, (S j k).size ≤ 9223372036854775807) ∧ len ≤ 9223372036854775807 := by
  rcases open_slice1 Try.underlying22 Try.cells26 h with ⟨hcs, _⟩ | ⟨a, len', cap', m, n, V, D, Pl, hcs, hb, hl, hm, hmm, _, hx⟩
  · simp at hcs
    obtain ⟨rfl, rfl, rfl⟩ := hcs
    exact ⟨fun _ => none, fun _ => 0, fun _ => 0, fun _ _ => ByteArray.empty, ⟨fun j hj => absurd hj (Nat.not_lt_zero j), fun j hj => absurd hj (Nat.not_lt_zero j), fun j hj => absurd hj (Nat.not_lt_zero j), fun j hj => absurd hj (Nat.not_lt_zero j)⟩, fun _ _ => by show (ByteArray.empty).size ≤ _; decide, by omega⟩
  · simp at hcs
    obtain ⟨rfl, rfl, rfl⟩ := hcs
    simp only [if_true] at hmm
    subst hmm
    have each : ∀ r, r < len → ∃ y : Option Addr × Nat × Nat × (Nat → ByteArray), V r = .slice y.1 y.2.1 y.2.2.1 ∧ y.2.1 ≤ maxLen ∧ (y.1 = none → y.2.1 = 0 ∧ y.2.2.1 = 0) ∧ ∀ k, k < y.2.1 → (∃ b o, y.1 = some ⟨b, o, none⟩ ∧ b < w.heap.size ∧ w.cell? ⟨b, o + k, none⟩ = some (.string (y.2.2.2 k))) ∧ (y.2.2.2 k).size ≤ maxLen := by
      intro r hr
      rcases open_strs Try.underlying26 Try.underlying9 Try.cells9 (hx r (by omega)).2 with ⟨hv, _⟩ | ⟨a', len', cap', m', Sx, hv, hb', hl', hm', hmm', _, hs⟩
      · simp at hv
        exact ⟨(none, 0, 0, fun _ => ByteArray.empty), hv, Nat.zero_le _, fun _ => ⟨rfl, rfl⟩, fun k hk => absurd hk (Nat.not_lt_zero k)⟩
      · simp at hv
        simp only [if_true] at hmm'
        subst hmm'
        refine ⟨(some a', len', m', Sx), hv, by show len' ≤ maxLen; omega, fun h => (by cases h), fun k hk => ?_⟩
        obtain ⟨hc, hsz⟩ := hs k (by have : k < len' := hk; omega)
        obtain ⟨b, o, e, hlt, hc'⟩ := cell_plain (hs 0 (by have : k < len' := hk; omega)).1 hc
        exact ⟨⟨b, o, by show some a' = _; rw [e], hlt, hc'⟩, hsz⟩
    obtain ⟨y, hy⟩ := choose_lt each
    refine ⟨fun r => (y r).1, fun r => (y r).2.1, fun r => (y r).2.2.1, fun r k => if r < len ∧ k < (y r).2.1 then (y r).2.2.2 k else ByteArray.empty, ⟨fun j hj => ?_, fun j hj k hk => ?_, fun j hj => (hy j hj).2.2.1, fun j hj => by have := (hy j hj).2.1; unfold maxLen at this; omega⟩, fun j k => ?_, by unfold maxLen at hm; omega⟩
    · have hc := (hx j (by omega)).1
      obtain ⟨b, o, e, hlt, hc'⟩ := cell_plain (hx 0 (by omega)).1 hc
      exact ⟨b, o, by rw [e], hlt, by rw [hc', (hy j hj).1]⟩
    · obtain ⟨⟨b, o, e, hlt, hc⟩, _⟩ := (hy j hj).2.2.2 k hk
      exact ⟨b, o, e, hlt, by rw [hc]; show _ = some (Value.string (if j < len ∧ k < (y j).2.1 then (y j).2.2.2 k else ByteArray.empty)); rw [if_pos ⟨hj, hk⟩]⟩
    · by_cases c : j < len ∧ k < (y j).2.1
      · simp only [if_pos c]
        have := ((hy j c.1).2.2.2 k c.2).2
        unfold maxLen at this
        omega
      · simp only [if_neg c]
        decide

theorem open_bytes {fuel : Nat} {a0 : Option Addr} {len cap : Nat} {x : DataW H × List MemPlace} (h : DataW.trod enc Try.prog w 0 (fun _ => true) true fuel 23 [.slice a0 len cap] = some x) :
    ∃ (A : Nat → Option Addr) (L C : Nat → Nat) (Z : Nat → Nat → Int), Grid w w.heap.size a0 len A L C (fun j k => .int .u8 (Z j k)) ∧ len ≤ 9223372036854775807 := by
  rcases open_slice1 Try.underlying23 Try.cells36 h with ⟨hcs, _⟩ | ⟨a, len', cap', m, n, V, D, Pl, hcs, hb, hl, hm, hmm, _, hx⟩
  · simp at hcs
    obtain ⟨rfl, rfl, rfl⟩ := hcs
    exact ⟨fun _ => none, fun _ => 0, fun _ => 0, fun _ _ => 0, ⟨fun j hj => absurd hj (Nat.not_lt_zero j), fun j hj => absurd hj (Nat.not_lt_zero j), fun j hj => absurd hj (Nat.not_lt_zero j), fun j hj => absurd hj (Nat.not_lt_zero j)⟩, by omega⟩
  · simp at hcs
    obtain ⟨rfl, rfl, rfl⟩ := hcs
    simp only [if_true] at hmm
    subst hmm
    have each : ∀ r, r < len → ∃ y : Option Addr × Nat × Nat × (Nat → Int), V r = .slice y.1 y.2.1 y.2.2.1 ∧ y.2.1 ≤ maxLen ∧ (y.1 = none → y.2.1 = 0 ∧ y.2.2.1 = 0) ∧ ∀ k, k < y.2.1 → (∃ b o, y.1 = some ⟨b, o, none⟩ ∧ b < w.heap.size ∧ w.cell? ⟨b, o + k, none⟩ = some (.int .u8 (y.2.2.2 k))) := by
      intro r hr
      rcases open_ints Try.underlying36 Try.underlying5 Try.cells5 (hx r (by omega)).2 with ⟨hv, _⟩ | ⟨a', len', cap', zs, hv, hb', hl', hm', hz, _, hcell, _⟩
      · simp at hv
        exact ⟨(none, 0, 0, fun _ => 0), hv, Nat.zero_le _, fun _ => ⟨rfl, rfl⟩, fun k hk => absurd hk (Nat.not_lt_zero k)⟩
      · simp at hv
        simp only [if_true] at hz
        refine ⟨(some a', len', cap', fun k => zs.getD k 0), hv, by show len' ≤ maxLen; omega, fun h => (by cases h), fun k hk => ?_⟩
        have hc := hcell k (by have : k < len' := hk; omega)
        obtain ⟨b, o, e, hlt, hc'⟩ := cell_plain (hcell 0 (by have : k < len' := hk; omega)) hc
        exact ⟨b, o, by show some a' = _; rw [e], hlt, hc'⟩
    obtain ⟨y, hy⟩ := choose_lt each
    refine ⟨fun r => (y r).1, fun r => (y r).2.1, fun r => (y r).2.2.1, fun r k => (y r).2.2.2 k, ⟨fun j hj => ?_, fun j hj k hk => (hy j hj).2.2.2 k hk, fun j hj => (hy j hj).2.2.1, fun j hj => by have := (hy j hj).2.1; unfold maxLen at this; omega⟩, by unfold maxLen at hm; omega⟩
    have hc := (hx j (by omega)).1
    obtain ⟨b, o, e, hlt, hc'⟩ := cell_plain (hx 0 (by omega)).1 hc
    exact ⟨b, o, by rw [e], hlt, by rw [hc', (hy j hj).1]⟩

end
end Go.Proofs.Qxb6618050a
