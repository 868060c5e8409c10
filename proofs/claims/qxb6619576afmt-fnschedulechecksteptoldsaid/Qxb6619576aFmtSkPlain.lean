/-
  Statement 3 (FnScheduleCheckStep): the plain law: floats' order; what a schedule is.
-/
import Derived.Test.Qxb6619576aFmtRows
namespace Go.Proofs.Qxb6619576aFmt

theorem datum_self (d : Ieee.Datum) : d.order d = some .eq ∨ ∀ e : Ieee.Datum, d.order e = none := by
  cases d with
  | nan => exact .inr fun e => by simp [Ieee.Datum.order]
  | infinity s => exact .inl (by simp [Ieee.Datum.order])
  | number s m i => exact .inl (by simp [Ieee.Datum.order])

theorem datum_swap (d e : Ieee.Datum) : d.order e = some .lt ↔ e.order d = some .gt := by
  cases d with
  | nan => cases e <;> simp [Ieee.Datum.order]
  | infinity s =>
    cases e with
    | nan => simp [Ieee.Datum.order]
    | infinity t => cases s <;> cases t <;> simp [Ieee.Datum.order] <;> decide
    | number t n j => cases s <;> simp [Ieee.Datum.order]
  | number s m i =>
    cases e with
    | nan => simp [Ieee.Datum.order]
    | infinity t => cases t <;> simp [Ieee.Datum.order]
    | number t n j =>
      simp only [Ieee.Datum.order, Option.some.injEq]
      rw [Int.min_comm j i, Int.compare_eq_lt, Int.compare_eq_gt]

/-- 'x > 0 && x <= 1' -/
def shareB (b : Nat) : Bool := (FloatKind.f64.format.order b 0 == some .gt) && (FloatKind.f64.format.order b 4607182418800017408 == some .lt || FloatKind.f64.format.order b 4607182418800017408 == some .eq)

theorem order_swap (b : Nat) : (FloatKind.f64.format.order 0 b == some .lt) = (FloatKind.f64.format.order b 0 == some .gt) := by
  rw [Bool.eq_iff_iff]
  simp only [beq_iff_eq]
  exact datum_swap _ _

theorem order_nan (b : Nat) (h : (FloatKind.f64.format.order b b != some .eq) = true) : (FloatKind.f64.format.order b 0 == some .gt) = false := by
  rcases datum_self (FloatKind.f64.format.read b) with h1 | h1
  · have h2 : FloatKind.f64.format.order b b = some .eq := h1
    rw [h2] at h
    simp at h
  · have h2 : FloatKind.f64.format.order b 0 = none := h1 _
    rw [h2]
    rfl

/-- Step k of a schedule, given the one before it. -/
def stepB (D : Nat → Int) (F : Nat → Nat) (k : Nat) : Bool := (if k = 0 then decide (D 0 = 1) else decide (D (k - 1) < D k)) && shareB (F k)

/-- What a schedule of n steps is. -/
def Valid (D : Nat → Int) (F : Nat → Nat) (n : Nat) : Prop := D 0 = 1 ∧ ∀ j, j < n → shareB (F j) = true ∧ ∀ i, i < j → D i < D j

theorem valid_one (D : Nat → Int) (F : Nat → Nat) : Valid D F 1 ↔ stepB D F 0 = true := by
  simp only [Valid, stepB, if_true, Bool.and_eq_true, decide_eq_true_eq]
  constructor
  · rintro ⟨h1, h2⟩
    exact ⟨h1, (h2 0 (by omega)).1⟩
  · rintro ⟨h1, h2⟩
    refine ⟨h1, fun j hj => ?_⟩
    obtain rfl : j = 0 := by omega
    exact ⟨h2, fun i hi => absurd hi (Nat.not_lt_zero i)⟩

theorem valid_next {D : Nat → Int} {F : Nat → Nat} {k : Nat} (hk : 0 < k) : Valid D F (k + 1) ↔ Valid D F k ∧ stepB D F k = true := by
  have e : stepB D F k = (decide (D (k - 1) < D k) && shareB (F k)) := by rw [stepB, if_neg (by omega)]
  rw [e, Bool.and_eq_true, decide_eq_true_eq]
  constructor
  · rintro ⟨h1, h2⟩
    exact ⟨⟨h1, fun j hj => h2 j (by omega)⟩, (h2 k (by omega)).2 _ (by omega), (h2 k (by omega)).1⟩
  · rintro ⟨⟨h1, h2⟩, h3, h4⟩
    refine ⟨h1, fun j hj => ?_⟩
    by_cases hjk : j < k
    · exact h2 j hjk
    · obtain rfl : j = k := by omega
      refine ⟨h4, fun i hi => ?_⟩
      by_cases hi2 : i = j - 1
      · subst hi2; exact h3
      · have := (h2 (j - 1) (by omega)).2 i (by omega)
        omega

/-- A schedule is one if and only if each of its steps passes. -/
theorem valid_steps {D : Nat → Int} {F : Nat → Nat} : ∀ n, 0 < n → (Valid D F n ↔ ∀ k, k < n → stepB D F k = true)
  | 0, h => absurd h (Nat.not_lt_zero 0)
  | 1, _ => by
    rw [valid_one]
    exact ⟨fun h k hk => by obtain rfl : k = 0 := by omega
                            exact h, fun h => h 0 (by omega)⟩
  | n + 2, _ => by
    rw [valid_next (by omega), valid_steps (n + 1) (by omega)]
    constructor
    · rintro ⟨h1, h2⟩ k hk
      by_cases e : k = n + 1
      · subst e; exact h2
      · exact h1 k (by omega)
    · intro h
      exact ⟨fun k hk => h k (by omega), h (n + 1) (by omega)⟩

/-- The window of step k and the one before it. -/
theorem stepB_window {D : Nat → Int} {F : Nat → Nat} {k : Nat} (hk : 0 < k) : stepB (fun j => D (k - 1 + j)) (fun j => F (k - 1 + j)) 1 = stepB D F k := by
  simp only [stepB]
  rw [if_neg (by omega), if_neg (by omega)]
  congr 2
  · simp
    rw [show k - 1 + 1 = k by omega]
  · rw [show k - 1 + 1 = k by omega]

end Go.Proofs.Qxb6619576aFmt
