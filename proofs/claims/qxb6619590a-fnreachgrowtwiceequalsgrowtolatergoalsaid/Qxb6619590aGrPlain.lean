/-
  Statements 4 and 5: the plain search.
-/
import Derived.Test.Qxb6619590aGrSmall
namespace Go.Proofs.Qxb6619590a
open Go.RowKit Go.Deep Go.Maps

theorem visN_ext (g : GA) (k : Nat) (R : List Nat) : ∀ i, ∃ x, visN g k R i = R ++ x
  | 0 => ⟨[], by simp [visN]⟩
  | i + 1 => by
    obtain ⟨x, hx⟩ := visN_ext g k R i
    by_cases h : g.ST (g.FR k + i) ∈ visN g k R i
    · exact ⟨x, by rw [visN, add1, if_pos h, hx]⟩
    · exact ⟨x ++ [g.ST (g.FR k + i)], by rw [visN, add1, if_neg h, hx, List.append_assoc]⟩

theorem visN_nodup (g : GA) (k : Nat) {R : List Nat} (h : R.Nodup) : ∀ i, (visN g k R i).Nodup
  | 0 => h
  | i + 1 => by
    have ih := visN_nodup g k h i
    rw [visN, add1]
    split
    · exact ih
    · rename_i hn
      rw [List.nodup_append]
      exact ⟨ih, by simp, fun a ha b hb => by
        simp at hb
        intro e
        subst e
        subst hb
        exact hn ha⟩

theorem vis_ext (g : GA) (k : Nat) (R : List Nat) : ∃ x, vis g k R = R ++ x := visN_ext g k R _

/-- The search's stages from src. -/
def stg (g : GA) (src : Nat) : Nat → List Nat
  | 0 => vis g src []
  | t + 1 => if h : t < (stg g src t).length then vis g (stg g src t)[t] (stg g src t) else stg g src t

theorem stg_stages (g : GA) (src : Nat) : Stages g (stg g src) := fun t h => by
  rw [stg, dif_pos h]

theorem stg_ext1 (g : GA) (src t : Nat) : ∃ x, stg g src (t + 1) = stg g src t ++ x := by
  rw [stg]
  split
  · exact vis_ext _ _ _
  · exact ⟨[], by simp⟩

theorem stg_ext (g : GA) (src : Nat) {t t' : Nat} (h : t ≤ t') : ∃ x, stg g src t' = stg g src t ++ x := by
  induction h with
  | refl => exact ⟨[], by simp⟩
  | step _ ih =>
    obtain ⟨x, hx⟩ := ih
    obtain ⟨y, hy⟩ := stg_ext1 g src _
    exact ⟨x ++ y, by rw [hy, hx, List.append_assoc]⟩

theorem stg_nodup (g : GA) (src : Nat) : ∀ t, (stg g src t).Nodup
  | 0 => visN_nodup g src List.nodup_nil _
  | t + 1 => by
    rw [stg]
    split
    · exact visN_nodup g _ (stg_nodup g src t) _
    · exact stg_nodup g src t

theorem stg_len (g : GA) (src : Nat) {t t' : Nat} (h : t ≤ t') : (stg g src t).length ≤ (stg g src t').length := by
  obtain ⟨x, hx⟩ := stg_ext g src h
  rw [hx, List.length_append]
  omega

theorem stg_get (g : GA) (src : Nat) {t t' p : Nat} (h : t ≤ t') (hp : p < (stg g src t).length) : (stg g src t')[p]'(Nat.lt_of_lt_of_le hp (stg_len g src h)) = (stg g src t)[p] := by
  obtain ⟨x, hx⟩ := stg_ext g src h
  simp only [hx]
  rw [List.getElem_append_left hp]

theorem stg_mem (g : GA) (src : Nat) {t t' v : Nat} (h : t ≤ t') (hv : v ∈ stg g src t) : v ∈ stg g src t' := by
  obtain ⟨x, hx⟩ := stg_ext g src h
  rw [hx]
  exact List.mem_append_left _ hv

theorem live_le {g : GA} {goal : Int} {src b : Nat} (h : Live g goal (stg g src) 0 b) : b ≤ (stg g src b).length := by
  cases b with
  | zero => exact Nat.zero_le _
  | succ b =>
    have := (h b (Nat.zero_le _) (by omega)).1
    have := stg_len g src (t := b) (t' := b + 1) (by omega)
    omega

/-- The list before the t-th walker (the source is the 0th). -/
def pl (g : GA) (src : Nat) : Nat → List Nat
  | 0 => []
  | t + 1 => stg g src t

/-- The t-th walker. -/
def wkr (g : GA) (src : Nat) : Nat → Nat
  | 0 => src
  | t + 1 => (stg g src t).getD t 0

theorem pl_step {g : GA} {goal : Int} {src b t : Nat} (h : Live g goal (stg g src) 0 b) (ht : t ≤ b) : pl g src (t + 1) = vis g (wkr g src t) (pl g src t) := by
  cases t with
  | zero => rfl
  | succ t =>
    have hl := (h t (Nat.zero_le _) (by omega)).1
    show stg g src (t + 1) = vis g ((stg g src t).getD t 0) (stg g src t)
    rw [stg, dif_pos hl, List.getD_eq_getElem?_getD, List.getElem?_eq_getElem hl]
    rfl

theorem pl_len {g : GA} {goal : Int} {src b t : Nat} (h : Live g goal (stg g src) 0 b) (ht : t ≤ b) : t ≤ (pl g src t).length := by
  cases t with
  | zero => exact Nat.zero_le _
  | succ t => exact (h t (Nat.zero_le _) (by omega)).1

/-- What is known of the keys, at step e of the walker q (-1: the source). L: the list before this walker. -/
structure KInv (R L : List Nat) (kw ke : Nat → Int) (q e : Int) : Prop where
  low : ∀ p (h : p < R.length), kw R[p] < p ∧ (kw R[p] < q ∨ (kw R[p] = q ∧ ke R[p] < e))
  inc : ∀ p (h : p + 1 < R.length), kw R[p] < kw R[p + 1] ∨ (kw R[p] = kw R[p + 1] ∧ ke R[p] < ke R[p + 1])
  new : ∀ v, v ∈ R → v ∉ L → kw v = q

theorem KInv.stay {R L : List Nat} {kw ke : Nat → Int} {q e : Int} (h : KInv R L kw ke q e) : KInv R L kw ke q (e + 1) :=
  ⟨fun p hp => ⟨(h.low p hp).1, by have := (h.low p hp).2; omega⟩, h.inc, h.new⟩

theorem KInv.next {R L : List Nat} {kw ke : Nat → Int} {q e : Int} (h : KInv R L kw ke q e) : KInv R R kw ke (q + 1) 0 :=
  ⟨fun p hp => ⟨(h.low p hp).1, by have := (h.low p hp).2; omega⟩, h.inc, fun v h1 h2 => absurd h1 h2⟩

theorem KInv.add {R L : List Nat} {kw ke : Nat → Int} {q e : Int} (h : KInv R L kw ke q e) {v : Nat} (hv : v ∉ R) (hq : q < R.length) :
    KInv (R ++ [v]) L (fun j => if j = v then q else kw j) (fun j => if j = v then e else ke j) q (e + 1) := by
  have hne : ∀ p (hp : p < R.length), R[p] ≠ v := fun p hp e => hv (e ▸ List.getElem_mem hp)
  refine ⟨fun p hp => ?_, fun p hp => ?_, fun x h1 h2 => ?_⟩
  · rw [List.length_append, List.length_singleton] at hp
    by_cases hl : p < R.length
    · rw [List.getElem_append_left hl, if_neg (hne p hl), if_neg (hne p hl)]
      have := h.low p hl
      omega
    · obtain rfl : p = R.length := by omega
      have e1 : (R ++ [v])[R.length]'(by simp) = v := by simp
      rw [e1, if_pos rfl, if_pos rfl]
      omega
  · rw [List.length_append, List.length_singleton] at hp
    by_cases hl : p + 1 < R.length
    · rw [List.getElem_append_left hl, List.getElem_append_left (by omega), if_neg (hne _ hl), if_neg (hne _ hl), if_neg (hne _ (by omega)), if_neg (hne _ (by omega))]
      exact h.inc p hl
    · have hp1 : p + 1 = R.length := by omega
      have e1 : (R ++ [v])[p + 1]'(by simp; omega) = v := by simp [hp1]
      rw [e1, List.getElem_append_left (by omega), if_pos rfl, if_pos rfl, if_neg (hne _ (by omega)), if_neg (hne _ (by omega))]
      exact (h.low p (by omega)).2
  · by_cases e : x = v
    · rw [if_pos e]
    · rw [if_neg e]
      refine h.new x ?_ h2
      rcases List.mem_append.1 h1 with h1 | h1
      · exact h1
      · simp at h1; exact absurd h1 e

end Go.Proofs.Qxb6619590a
