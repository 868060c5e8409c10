/-
  Statements 4 and 5: the slices that are handed in and copied; the graph out of its parts.
-/
import Derived.Test.Qxb6619590aGrMap
namespace Go.Proofs.Qxb6619590a
open Go.RowKit Go.Deep Go.Maps

/-- A slice of int32, all of it in memory. -/
structure Sl (w : World) (ao : Option Addr) (n c : Nat) (f : Nat → Int) : Prop where
  ints : Ints w (· < w.heap.size) ao n f
  nil : ao = none → n = 0 ∧ c = 0
  rng : ∀ i, i < n → -2147483648 ≤ f i ∧ f i ≤ 2147483647

theorem Sl.next {w w' : World} {ao : Option Addr} {n c : Nat} {f : Nat → Int} (h : Sl w ao n c f) (hb : Below w.heap.size w w') : Sl w' ao n c f :=
  ⟨(h.ints.below hb).mono (fun _ hx => Nat.lt_of_lt_of_le hx hb.size), h.nil, h.rng⟩

/-- A copy, as a slice. -/
def CopyIs (w : World) (ao : Option Addr) (n : Nat) (f : Nat → Int) (e : Ending) (w' : World) : Prop :=
  ∃ ao', e = .returned (.slice ao' n n) ∧ Below w.heap.size w w' ∧ Sl w' ao' n n f ∧ (ao' = none ↔ ao = none)

theorem copy_any {w : World} {ao : Option Addr} {n c : Nat} {f : Nat → Int} (h : Sl w ao n c f) (hn : n ≤ 262144) : Calls Try.prog 7 #[.slice ao n c] w (CopyIs w ao n f) :=
  (clone_any w ao n c f (by omega) h.nil h.ints).mono (fun _ _ hc => by
    obtain ⟨ao', e, hb, hi, hiff⟩ := hc
    exact ⟨ao', e, hb, ⟨hi, fun e' => ⟨(h.nil (hiff.1 e')).1, (h.nil (hiff.1 e')).1⟩, h.rng⟩, hiff⟩)

/-- The graph's plain data. -/
def gaOf (bg d n ls : Nat) (aN aF aS : Option Addr) (vN FR ST : Nat → Int) : GA := ⟨bg, d, n, ls, aN, aF, aS, vN, fun k => (FR k).toNat, fun k => (ST k).toNat⟩

theorem ok_of {bg d n ls lF : Nat} {aN aF aS : Option Addr} {vN FR ST : Nat → Int} (hd : d ≤ 1) (hn : n ≤ 262144) (hls : ls ≤ 262144) (hinj : ∀ i j, i < n → j < n → vN i = vN j → i = j) (ht : Tail n lF FR ls ST) (hr : ∀ i, i < n → -2147483648 ≤ vN i ∧ vN i ≤ 2147483647) :
    (gaOf bg d n ls aN aF aS vN FR ST).Ok := by
  obtain ⟨h1, h2, h3, h4, h5⟩ := ht
  refine ⟨hd, hn, hls, hinj, fun k hk => ?_, ?_, fun e he => ?_, hr⟩
  · have := h4 k hk
    show (FR k).toNat ≤ (FR (k + 1)).toNat
    omega
  · show (FR n).toNat ≤ ls
    omega
  · have := h5 e he
    show (ST e).toNat < n
    omega

theorem fr_nonneg {n lF ls : Nat} {FR ST : Nat → Int} (ht : Tail n lF FR ls ST) : ∀ k, k ≤ n → 0 ≤ FR k := by
  intro k
  induction k with
  | zero => exact fun _ => ht.2.1
  | succ k ih => exact fun hk => Int.le_trans (ih (by omega)) (ht.2.2.2.1 k (by omega))

end Go.Proofs.Qxb6619590a
