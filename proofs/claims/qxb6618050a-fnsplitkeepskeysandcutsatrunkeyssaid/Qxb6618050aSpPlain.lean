/-
  Statement 1: the plain law: what the runs behind split(i) hold, end to end, and where they end (no Go in sight).
-/
import Derived.Test.Qxb6618050aSpEnds
namespace Go.Proofs.Qxb6618050a
open Go.RowKit Go.Deep

/-- A family with 'z' put behind place i. -/
def sh {α : Type} (i : Nat) (F : Nat → α) (z : α) (j : Nat) : α := if j ≤ i then F j else if j = i + 1 then z else F (j - 1)
theorem sh_le {α : Type} {i j : Nat} {F : Nat → α} {z : α} (h : j ≤ i) : sh i F z j = F j := by rw [sh, if_pos h]
theorem sh_new {α : Type} {i : Nat} {F : Nat → α} {z : α} : sh i F z (i + 1) = z := by rw [sh, if_neg (by omega), if_pos rfl]
theorem sh_gt {α : Type} {i j : Nat} {F : Nat → α} {z : α} (h : i + 1 < j) : sh i F z j = F (j - 1) := by rw [sh, if_neg (by omega), if_neg (by omega)]

/-- The runs' lengths behind split(i). -/
def cutL (i : Nat) (L : Nat → Nat) (j : Nat) : Nat := if j < i then L j else if j = i then 128 else if j = i + 1 then L i - 128 else L (j - 1)
/-- Their keys. -/
def cutS (i : Nat) (S : Nat → Nat → ByteArray) (j k : Nat) : ByteArray := if j ≤ i then S j k else if j = i + 1 then S i (128 + k) else S (j - 1) k

theorem cutL_lt {i j : Nat} {L : Nat → Nat} (h : j < i) : cutL i L j = L j := by rw [cutL, if_pos h]
theorem cutL_eq {i : Nat} {L : Nat → Nat} : cutL i L i = 128 := by rw [cutL, if_neg (by omega), if_pos rfl]
theorem cutL_new {i : Nat} {L : Nat → Nat} : cutL i L (i + 1) = L i - 128 := by rw [cutL, if_neg (by omega), if_neg (by omega), if_pos rfl]
theorem cutL_gt {i j : Nat} {L : Nat → Nat} (h : i + 1 < j) : cutL i L j = L (j - 1) := by rw [cutL, if_neg (by omega), if_neg (by omega), if_neg (by omega)]

theorem cutL_small {i n : Nat} {L : Nat → Nat} (hi : i < n) (h : ∀ j, j < n → L j ≤ 1048576) (j : Nat) (hj : j < n + 1) : cutL i L j ≤ 1048576 := by
  by_cases h1 : j < i
  · rw [cutL_lt h1]; exact h j (by omega)
  by_cases h2 : j = i
  · subst h2; rw [cutL_eq]; omega
  by_cases h3 : j = i + 1
  · subst h3; rw [cutL_new]; have := h i hi; omega
  · rw [cutL_gt (by omega)]; exact h _ (by omega)

theorem range_split {α : Type} (g : Nat → α) (a b : Nat) : (List.range (a + b)).map g = (List.range a).map g ++ (List.range b).map (fun k => g (a + k)) := by
  rw [List.range_add, List.map_append, List.map_map]
  rfl

theorem flat_low (i : Nat) (L : Nat → Nat) (S : Nat → Nat → ByteArray) : ∀ j, j ≤ i → flat (cutL i L) (cutS i S) j = flat L S j
  | 0, _ => rfl
  | j + 1, h => by
    have ih := flat_low i L S j (by omega)
    simp only [flat]
    rw [ih, cutL_lt (by omega)]
    congr 2
    funext k
    rw [cutS, if_pos (by omega)]

theorem flat_cut {i : Nat} {L : Nat → Nat} (S : Nat → Nat → ByteArray) (hl : 128 ≤ L i) : flat (cutL i L) (cutS i S) (i + 2) = flat L S (i + 1) := by
  have h0 := flat_low i L S i (Nat.le_refl _)
  simp only [flat]
  rw [h0, cutL_eq, cutL_new, List.append_assoc]
  congr 1
  have e : L i = 128 + (L i - 128) := by omega
  rw [e, range_split, Nat.add_sub_cancel_left]
  congr 2
  · funext k
    rw [cutS, if_pos (Nat.le_refl _)]
  · funext k
    rw [cutS, if_neg (by omega), if_pos rfl]

theorem flat_high {i : Nat} {L : Nat → Nat} (S : Nat → Nat → ByteArray) (hl : 128 ≤ L i) : ∀ d, flat (cutL i L) (cutS i S) (i + 2 + d) = flat L S (i + 1 + d)
  | 0 => flat_cut S hl
  | d + 1 => by
    have ih := flat_high S hl d
    rw [show i + 2 + (d + 1) = (i + 2 + d) + 1 by omega, show i + 1 + (d + 1) = (i + 1 + d) + 1 by omega]
    simp only [flat]
    rw [ih, cutL_gt (by omega)]
    congr 1
    rw [show i + 2 + d - 1 = i + 1 + d by omega]
    congr 1
    funext k
    rw [cutS, if_neg (by omega), if_neg (by omega)]
    congr 1
    omega

/-- READ END TO END THE RUNS HOLD THE SAME KEYS. -/
theorem flat_same {i n : Nat} {L : Nat → Nat} (S : Nat → Nat → ByteArray) (hi : i < n) (hl : 128 ≤ L i) : flat (cutL i L) (cutS i S) (n + 1) = flat L S n := by
  have := flat_high S hl (n - i - 1)
  rw [show i + 2 + (n - i - 1) = n + 1 by omega, show i + 1 + (n - i - 1) = n by omega] at this
  exact this

theorem pre_low (i : Nat) (L : Nat → Nat) : ∀ j, j ≤ i → pre (cutL i L) j = pre L j
  | 0, _ => rfl
  | j + 1, h => by simp only [pre]; rw [pre_low i L j (by omega), cutL_lt (by omega)]
theorem pre_high {i : Nat} {L : Nat → Nat} (hl : 128 ≤ L i) : ∀ d, pre (cutL i L) (i + 2 + d) = pre L (i + 1 + d)
  | 0 => by
    show pre (cutL i L) i + cutL i L i + cutL i L (i + 1) = pre L i + L i
    rw [pre_low i L i (Nat.le_refl _), cutL_eq, cutL_new]; omega
  | d + 1 => by
    rw [show i + 2 + (d + 1) = (i + 2 + d) + 1 by omega, show i + 1 + (d + 1) = (i + 1 + d) + 1 by omega]
    simp only [pre]
    rw [pre_high hl d, cutL_gt (by omega), show i + 2 + d - 1 = i + 1 + d by omega]

/-- The boundaries that the law wants, as its loop lays them. -/
def wl (L : Nat → Nat) (i : Nat) : Nat → List Int
  | 0 => []
  | j + 1 => wl L i j ++ (if j = i then [(pre L j : Int) + 128] else []) ++ [(pre L (j + 1) : Int)]

theorem wl_length (L : Nat → Nat) (i : Nat) : ∀ j, (wl L i j).length = j + (if i < j then 1 else 0)
  | 0 => by simp [wl]
  | j + 1 => by
    simp only [wl, List.length_append, wl_length L i j]
    by_cases h1 : j = i
    · subst h1; simp
    · rw [if_neg h1]
      by_cases h2 : i < j
      · rw [if_pos h2, if_pos (by omega)]; simp
      · rw [if_neg h2, if_neg (by omega)]; simp

theorem ends_low (i : Nat) (L : Nat → Nat) : ∀ j, j ≤ i → ends (cutL i L) j = wl L i j
  | 0, _ => rfl
  | j + 1, h => by
    simp only [ends, wl]
    rw [ends_low i L j (by omega), if_neg (by omega), pre_low i L (j + 1) h]
    simp [pre]
theorem ends_high {i : Nat} {L : Nat → Nat} (hl : 128 ≤ L i) : ∀ d, ends (cutL i L) (i + 2 + d) = wl L i (i + 1 + d)
  | 0 => by
    have h1 := ends_low i L i (Nat.le_refl _)
    have h2 : pre (cutL i L) (i + 1) = pre L i + 128 := by simp only [pre]; rw [pre_low i L i (Nat.le_refl _), cutL_eq]
    have h3 := pre_high hl 0
    show ends (cutL i L) i ++ [(pre (cutL i L) (i + 1) : Int)] ++ [(pre (cutL i L) (i + 2 + 0) : Int)] = wl L i i ++ (if i = i then [(pre L i : Int) + 128] else []) ++ [(pre L (i + 1) : Int)]
    rw [h1, h2, h3, if_pos rfl]
    simp
  | d + 1 => by
    rw [show i + 2 + (d + 1) = (i + 2 + d) + 1 by omega, show i + 1 + (d + 1) = (i + 1 + d) + 1 by omega]
    simp only [ends, wl]
    rw [ends_high hl d, if_neg (by omega)]
    have := pre_high hl (d + 1)
    rw [show i + 2 + (d + 1) = (i + 2 + d) + 1 by omega, show i + 1 + (d + 1) = (i + 1 + d) + 1 by omega] at this
    rw [this]
    simp

/-- THE BOUNDARIES ARE THE OLD ONES WITH ONE NEW ONE. -/
theorem ends_same {i n : Nat} {L : Nat → Nat} (hi : i < n) (hl : 128 ≤ L i) : ends (cutL i L) (n + 1) = wl L i n := by
  have := ends_high hl (n - i - 1)
  rw [show i + 2 + (n - i - 1) = n + 1 by omega, show i + 1 + (n - i - 1) = n by omega] at this
  exact this

end Go.Proofs.Qxb6618050a
