/-
  Statement 1: what ZZSplit hands out, as grids (no walk).
-/
import Derived.Test.Qxb6618050aSpPlain
import Derived.Test.Qxb6618050aSpZW
namespace Go.Proofs.Qxb6618050a
open Go.RowKit Go.Deep

theorem fin_k {K E B : Nat → Value} {i bi Li cu : Nat} {au : Option Addr} (j : Nat) :
    fin (runCell K E B) i bi Li au cu (3 * j) = if j < i then K j else if j = i then .slice (some ⟨bi, 0, none⟩) 128 Li else if j = i + 1 then .slice au (Li - 128) cu else K (j - 1) := by
  unfold fin
  by_cases h1 : j < i
  · rw [if_pos (by omega), if_pos h1, runCell_k]
  rw [if_neg (by omega), if_neg h1]
  by_cases h2 : j = i
  · rw [if_pos (by omega), if_pos h2]
  rw [if_neg (by omega), if_neg h2, if_neg (by omega)]
  by_cases h3 : j = i + 1
  · rw [if_pos (by omega), if_pos h3]
  rw [if_neg (by omega), if_neg h3, if_neg (by omega), show 3 * j - 3 = 3 * (j - 1) by omega, runCell_k]

theorem fin_e {K E B : Nat → Value} {i bi Li cu : Nat} {au : Option Addr} (j : Nat) : fin (runCell K E B) i bi Li au cu (3 * j + 1) = sh i E (.slice none 0 0) j := by
  unfold fin
  by_cases h1 : j < i
  · rw [if_pos (by omega), sh_le (by omega), runCell_e]
  rw [if_neg (by omega), if_neg (by omega)]
  by_cases h2 : j ≤ i
  · rw [if_pos (by omega), sh_le h2, runCell_e]
  rw [if_neg (by omega), if_neg (by omega)]
  by_cases h3 : j = i + 1
  · rw [if_pos (by omega), h3, sh_new]
  rw [if_neg (by omega), sh_gt (by omega), show 3 * j + 1 - 3 = 3 * (j - 1) + 1 by omega, runCell_e]

theorem fin_b {K E B : Nat → Value} {i bi Li cu : Nat} {au : Option Addr} (j : Nat) : fin (runCell K E B) i bi Li au cu (3 * j + 2) = sh i B (.slice none 0 0) j := by
  unfold fin
  by_cases h1 : j < i
  · rw [if_pos (by omega), sh_le (by omega), runCell_b]
  rw [if_neg (by omega), if_neg (by omega)]
  by_cases h2 : j ≤ i
  · rw [if_pos (by omega), sh_le h2, runCell_b]
  rw [if_neg (by omega), if_neg (by omega)]
  by_cases h3 : j = i + 1
  · rw [if_pos (by omega), h3, sh_new]
  rw [if_neg (by omega), sh_gt (by omega), show 3 * j + 2 - 3 = 3 * (j - 1) + 2 by omega, runCell_b]

/-- One of the two byte columns. -/
theorem out_bytes {w w' : World} {g n i bi B M : Nat} {ao : Option Addr} {A : Nat → Option Addr} {L : Nat → Nat} {V : Nat → Nat → Value} (hi : i < n) (hg : Grid w B ao n A L L V) (hB : B ≤ w.heap.size) (hne : ∀ j, j < n → ∀ b o, A j = some ⟨b, o, none⟩ → b ≠ bi)
    (hsame : ∀ b, b < w.heap.size → b ≠ bi → w'.heap[b]? = w.heap[b]?) (hsz : w.heap.size ≤ w'.heap.size) (hrow : w'.rowIs g 36 M (sh i (fun j => .slice (A j) (L j) (L j)) (.slice none 0 0))) (hM : M = n + 1) :
    Grid w' w'.heap.size (some ⟨g, 0, none⟩) (n + 1) (sh i A none) (sh i L 0) (sh i L 0) (sh i V (fun _ => undef)) := by
  subst hM
  have key : ∀ j, j < n + 1 → (∃ j', j' < n ∧ sh i A none j = A j' ∧ sh i L 0 j = L j' ∧ sh i V (fun _ => undef) j = V j' ∧ sh i (fun j => Value.slice (A j) (L j) (L j)) (.slice none 0 0) j = .slice (A j') (L j') (L j')) ∨
      (sh i A none j = none ∧ sh i L 0 j = 0 ∧ sh i (fun j => Value.slice (A j) (L j) (L j)) (.slice none 0 0) j = .slice none 0 0) := by
    intro j hj
    by_cases h1 : j ≤ i
    · exact .inl ⟨j, by omega, sh_le h1, sh_le h1, sh_le h1, sh_le h1⟩
    by_cases h2 : j = i + 1
    · subst h2; exact .inr ⟨sh_new, sh_new, sh_new⟩
    · exact .inl ⟨j - 1, by omega, sh_gt (by omega), sh_gt (by omega), sh_gt (by omega), sh_gt (by omega)⟩
  refine ⟨fun j hj => ⟨g, 0, rfl, hrow.lt, ?_⟩, fun j hj k hk => ?_, fun j hj hn => ?_, fun j hj => ?_⟩
  · rw [Nat.zero_add, hrow.cell hj]
    rcases key j hj with ⟨j', _, h1, h2, _, h3⟩ | ⟨h1, h2, h3⟩
    · rw [h1, h2, h3]
    · rw [h1, h2, h3]
  · rcases key j hj with ⟨j', hj', h1, h2, h3, _⟩ | ⟨_, h2, _⟩
    · rw [h2] at hk
      rw [h1, h3]
      obtain ⟨b, o, e, hlt, hc⟩ := hg.elt j' hj' k hk
      refine ⟨b, o, e, by omega, ?_⟩
      rw [← hc]
      exact World.cell?_of_block (w := w) (hsame b (by omega) (hne j' hj' b o e))
    · omega
  · rcases key j hj with ⟨j', hj', h1, h2, _, _⟩ | ⟨_, h2, _⟩
    · rw [h1] at hn
      rw [h2]
      exact ⟨(hg.nil j' hj' hn).1, (hg.nil j' hj' hn).1⟩
    · exact ⟨h2, h2⟩
  · rcases key j hj with ⟨j', hj', h1, h2, _, _⟩ | ⟨_, h2, _⟩
    · rw [h2]; exact hg.len j' hj'
    · rw [h2]; omega

/-- The keys' column. -/
theorem out_keys {w w' : World} {n i bi B M cu : Nat} {ao au : Option Addr} {A : Nat → Option Addr} {L : Nat → Nat} {S : Nat → Nat → ByteArray} {f : Nat → Value} (hi : i < n) (hg : Grid w B ao n A L L (fun j k => .string (S j k))) (hB : B ≤ w.heap.size) (hne : ∀ j, j < n → j ≠ i → ∀ b o, A j = some ⟨b, o, none⟩ → b ≠ bi)
    (hAi : A i = some ⟨bi, 0, none⟩) (hbi : bi < w.heap.size) (hl : 128 ≤ L i) (hz : ZZPost w w' n i bi (L i) f (S i) M au cu) (hf : ∀ j, fin f i bi (L i) au cu (3 * j) = if j < i then .slice (A j) (L j) (L j) else if j = i then .slice (some ⟨bi, 0, none⟩) 128 (L i) else if j = i + 1 then .slice au (L i - 128) cu else .slice (A (j - 1)) (L (j - 1)) (L (j - 1))) :
    ∃ C, Grid w' w'.heap.size (some ⟨M, 0, none⟩) (n + 1) (sh i A au) (cutL i L) C (fun j k => .string (cutS i S j k)) := by
  refine ⟨fun j => if j < i then L j else if j = i then L i else if j = i + 1 then cu else L (j - 1), ⟨fun j hj => ⟨M, 0, rfl, hz.k.lt, ?_⟩, fun j hj k hk => ?_, fun j hj hn => ?_, fun j hj => ?_⟩⟩
  · rw [Nat.zero_add, hz.k.cell hj, hf]
    by_cases h1 : j < i
    · rw [if_pos h1, if_pos h1, sh_le (by omega), cutL_lt h1]
    rw [if_neg h1, if_neg h1]
    by_cases h2 : j = i
    · subst h2
      rw [if_pos rfl, if_pos rfl, sh_le (Nat.le_refl _), cutL_eq, hAi]
    rw [if_neg h2, if_neg h2]
    by_cases h3 : j = i + 1
    · subst h3
      rw [if_pos rfl, if_pos rfl, sh_new, cutL_new]
    rw [if_neg h3, if_neg h3, sh_gt (by omega), cutL_gt (by omega)]
  · by_cases h2 : j = i
    · subst h2
      rw [cutL_eq] at hk
      refine ⟨bi, 0, by rw [sh_le (Nat.le_refl _), hAi], by have := hz.size; omega, ?_⟩
      rw [Nat.zero_add, hz.low k hk, cutS, if_pos (Nat.le_refl _)]
    by_cases h3 : j = i + 1
    · subst h3
      rw [cutL_new] at hk
      obtain ⟨b, e, hlt, hc⟩ := hz.upper k hk
      refine ⟨b, 0, by rw [sh_new, e], hlt, ?_⟩
      rw [Nat.zero_add, hc, cutS, if_neg (by omega), if_pos rfl]
    obtain ⟨j', hj', hji, e1, e2, e3⟩ : ∃ j', j' < n ∧ j' ≠ i ∧ sh i A au j = A j' ∧ cutL i L j = L j' ∧ cutS i S j k = S j' k := by
      by_cases h1 : j < i
      · exact ⟨j, by omega, h2, sh_le (by omega), cutL_lt h1, by rw [cutS, if_pos (by omega)]⟩
      · exact ⟨j - 1, by omega, by omega, sh_gt (by omega), cutL_gt (by omega), by rw [cutS, if_neg (by omega), if_neg h3]⟩
    rw [e2] at hk
    rw [e1, e3]
    obtain ⟨b, o, e, hlt, hc⟩ := hg.elt j' hj' k hk
    refine ⟨b, o, e, by have := hz.size; omega, ?_⟩
    rw [← hc]
    exact World.cell?_of_block (w := w) (hz.same b (by omega) (hne j' hj' hji b o e))
  · by_cases h2 : j = i
    · subst h2
      rw [sh_le (Nat.le_refl _), hAi] at hn
      cases hn
    by_cases h3 : j = i + 1
    · subst h3
      rw [sh_new] at hn
      have := hz.unil hn
      rw [cutL_new, if_neg (by omega), if_neg (by omega), if_pos rfl]
      exact this
    by_cases h1 : j < i
    · rw [sh_le (by omega)] at hn
      rw [cutL_lt h1, if_pos h1]
      exact ⟨(hg.nil j (by omega) hn).1, (hg.nil j (by omega) hn).1⟩
    · rw [sh_gt (by omega)] at hn
      rw [cutL_gt (by omega), if_neg h1, if_neg h2, if_neg h3]
      exact ⟨(hg.nil _ (by omega) hn).1, (hg.nil _ (by omega) hn).1⟩
  · by_cases h1 : j < i
    · rw [cutL_lt h1]; exact hg.len j (by omega)
    by_cases h2 : j = i
    · subst h2; rw [cutL_eq]; omega
    by_cases h3 : j = i + 1
    · subst h3; rw [cutL_new]; have := hg.len i hi; omega
    · rw [cutL_gt (by omega)]; exact hg.len _ (by omega)

end Go.Proofs.Qxb6618050a
