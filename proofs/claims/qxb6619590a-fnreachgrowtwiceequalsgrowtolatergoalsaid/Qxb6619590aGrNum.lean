/-
  Statements 4 and 5: from the premise to the graph's numbers.
-/
import Derived.Test.Qxb6619590aGrPremM
namespace Go.Proofs.Qxb6619590a
open Go.RowKit Go.Deep Go.Maps

theorem pigeon {α : Type} [DecidableEq α] : ∀ (L K : List α), L.Nodup → (∀ x ∈ L, x ∈ K) → K.length ≤ L.length → ∀ x ∈ K, x ∈ L
  | [], K, _, _, hl, x, hx => by
    have : K = [] := List.eq_nil_of_length_eq_zero (by simpa using hl)
    rw [this] at hx
    exact hx
  | a :: l, K, hnd, hs, hl, x, hx => by
    have ha := hs a (by simp)
    have hnd' := List.nodup_cons.1 hnd
    by_cases e : x = a
    · simp [e]
    · refine List.mem_cons_of_mem _ (pigeon l (K.erase a) hnd'.2 (fun y hy => ?_) ?_ x ?_)
      · have hya : y ≠ a := fun e => hnd'.1 (by rw [← e]; exact hy)
        exact (List.mem_erase_of_ne hya).2 (hs y (by simp [hy]))
      · rw [List.length_erase_of_mem ha]
        simp at hl
        omega
      · exact (List.mem_erase_of_ne e).2 hx

theorem cnt_filter (M : Nat → Bool) (n : Nat) : ((List.range n).filter M).length = cnt M n := by
  rw [cnt, List.countP_eq_length_filter]

theorem nodup_map_range {α : Type} (f : Nat → α) (n : Nat) (h : ∀ i j, i < n → j < n → f i = f j → i = j) : ((List.range n).map f).Nodup := by
  rw [List.nodup_iff_pairwise_ne, List.pairwise_map]
  refine List.Pairwise.imp_of_mem ?_ (List.nodup_iff_pairwise_ne.1 List.nodup_range)
  intro a b ha hb hne e
  exact hne (h a b (List.mem_range.1 ha) (List.mem_range.1 hb) e)

/-- The dense numbering: injective, and nothing else has a number. -/
theorem dense_law {n : Nat} {vN : Nat → Int} {mn : Int} {lD : Nat} {vD : Nat → Int} (h : HeadD n vN mn lD vD) :
    (∀ i j, i < n → j < n → vN i = vN j → i = j) ∧ ∀ x, denseOn vD lD mn x = true → ∃ i, i < n ∧ vN i = x := by
  obtain ⟨hc, hall⟩ := h
  have hinj : ∀ i j, i < n → j < n → vN i = vN j → i = j := fun i j hi hj e => by
    have h1 := (hall i hi).2.2
    have h2 := (hall j hj).2.2
    rw [e, h2] at h1
    omega
  refine ⟨hinj, fun x hx => ?_⟩
  simp only [denseOn, decide_eq_true_eq] at hx
  obtain ⟨h0, h1, h2⟩ := hx
  have hp := pigeon ((List.range n).map fun i => (vN i - mn).toNat) ((List.range lD).filter fun j => decide (0 < vD j))
    (nodup_map_range _ n (fun i j hi hj e => hinj i j hi hj (by have := (hall i hi).1; have := (hall j hj).1; omega)))
    (fun y hy => by
      obtain ⟨i, hi, rfl⟩ := List.mem_map.1 hy
      have hi' := List.mem_range.1 hi
      obtain ⟨a0, a1, a2⟩ := hall i hi'
      rw [List.mem_filter]
      exact ⟨List.mem_range.2 (by omega), by rw [a2, decide_eq_true_eq]; omega⟩)
    (by rw [cnt_filter, hc]; simp) (x - mn).toNat (List.mem_filter.2 ⟨List.mem_range.2 (by omega), by simpa using h2⟩)
  obtain ⟨i, hi, e⟩ := List.mem_map.1 hp
  have hi' := List.mem_range.1 hi
  exact ⟨i, hi', by have := (hall i hi').1; omega⟩

/-- What number answers, in the graph's own words. -/
theorem dense_num {g : GA} (hg : g.Ok) {mn : Int} {lD : Nat} {vD : Nat → Int} (h : HeadD g.n g.vN mn lD vD) (x : Int) : denseOn vD lD mn x = g.on x ∧ denseIx vD lD mn x = (g.ix x : Int) := by
  have hl := dense_law h
  cases hx : g.on x with
  | true =>
    obtain ⟨hi, hv⟩ := GA.ix_on hx
    obtain ⟨a0, a1, a2⟩ := h.2 (g.ix x) hi
    rw [hv] at a0 a1 a2
    have hd : denseOn vD lD mn x = true := by
      simp only [denseOn, decide_eq_true_eq]
      exact ⟨a0, a1, by rw [a2]; omega⟩
    refine ⟨hd, ?_⟩
    rw [denseIx, if_pos hd, a2]
    omega
  | false =>
    have hd : denseOn vD lD mn x = false := by
      cases h2 : denseOn vD lD mn x with
      | false => rfl
      | true =>
        obtain ⟨i, hi, e⟩ := hl.2 x h2
        have := (GA.ix_at hg hi).1
        rw [e, hx] at this
        cases this
    refine ⟨hd, ?_⟩
    rw [denseIx, hd, GA.ix_off hx]
    simp

theorem map_num {g : GA} (hg : g.Ok) {ml : Nat} {lv : Int → Int} {lb : Int → Bool} (h : HeadM g.n g.vN ml lv lb) (hkeys : ∀ x, lb x = true → ∃ i, i < g.n ∧ g.vN i = x) (hz : ∀ x, lb x = false → lv x = 0) (x : Int) : lb x = g.on x ∧ lv x = (g.ix x : Int) := by
  cases hx : g.on x with
  | true =>
    obtain ⟨hi, hv⟩ := GA.ix_on hx
    have := h.2 (g.ix x) hi
    rw [hv] at this
    exact this
  | false =>
    have hb : lb x = false := by
      cases h2 : lb x with
      | false => rfl
      | true =>
        obtain ⟨i, hi, e⟩ := hkeys x h2
        have := (GA.ix_at hg hi).1
        rw [e, hx] at this
        cases this
    exact ⟨hb, by rw [hz x hb, GA.ix_off hx]; rfl⟩

end Go.Proofs.Qxb6619590a
