/-
  Statement 5: what the second growth of a reach leaves; plain laws.
-/
import Derived.Test.Qxb6619590aGrReady
namespace Go.Proofs.Qxb6619590a
open Go.RowKit Go.Deep Go.Maps

theorem Grown.uniq {g : GA} {node goal : Int} {rn rn' : List Nat} {S S' : Nat → Bool} {wk wk' f f' : Nat} (h : Grown g node goal rn S wk f) (h' : Grown g node goal rn' S' wk' f') : rn = rn' ∧ S = S' ∧ wk = wk' ∧ f = f' := by
  rcases h with ⟨hoff, rfl, rfl, rfl, rfl⟩ | ⟨hon, rfl, rfl, hl, hs, rfl⟩
  · rcases h' with ⟨_, rfl, rfl, rfl, rfl⟩ | ⟨hon, _⟩
    · exact ⟨rfl, rfl, rfl, rfl⟩
    · rw [hoff] at hon; cases hon
  · rcases h' with ⟨hoff, _⟩ | ⟨_, rfl, rfl, hl', hs', rfl⟩
    · rw [hoff] at hon; cases hon
    · obtain rfl : wk = wk' := by
        rcases Nat.lt_trichotomy wk wk' with h | h | h
        · have := hl' wk (by omega) h
          rcases hs with s | s
          · omega
          · rw [this.2] at s; cases s
        · exact h
        · have := hl wk' (by omega) h
          rcases hs' with s | s
          · omega
          · rw [this.2] at s; cases s
      exact ⟨rfl, rfl, rfl, rfl⟩

theorem deg_small {g : GA} (hg : g.Ok) {k : Nat} (hk : k < g.n) : deg g k ≤ 262144 := by
  have h3 : g.FR (k + 1) ≤ g.ls := Nat.le_trans (hg.le (k + 1) g.n (by omega) (Nat.le_refl _)) hg.top
  have h4 := hg.ls1
  unfold deg
  omega

theorem Grown.small {w : World} {g : GA} {br : Nat} {node goal : Int} {rn : List Nat} {S : Nat → Bool} {wk f : Nat} (h : Grown g node goal rn S wk f) (hg : g.Ok) (hR : RA w g br rn S wk) : f ≤ 1000000000000 := by
  rcases h with ⟨hoff, rfl, rfl, rfl, rfl⟩ | ⟨hon, rfl, rfl, hl, hs, rfl⟩
  · omega
  · obtain ⟨vn, few, many, hR⟩ := hR
    have h1 := live_le hl
    have h2 := hR.len
    have h3 := cnt_le (hh (stg g (g.ix node) wk)) g.n
    have h4 := hg.n1
    have h5 := deg_small hg (GA.ix_on hon).1
    have hsum : ∀ t, t ≤ wk → walkSum g (stg g (g.ix node)) t ≤ t * 262144 := fun t ht => by
      induction t with
      | zero => simp [walkSum]
      | succ t ih =>
        have i1 := ih (by omega)
        have i2 := (hl t (Nat.zero_le _) (by omega)).1
        have e : (stg g (g.ix node) t).getD t 0 = (stg g (g.ix node) t)[t] := by
          rw [List.getD_eq_getElem?_getD, List.getElem?_eq_getElem i2]; rfl
        have i3 : (stg g (g.ix node) t)[t] < g.n := by
          rw [← stg_get g (g.ix node) (t := t) (t' := wk) (by omega) i2]
          exact hR.lt _ (List.getElem_mem _)
        have i4 := deg_small hg i3
        rw [walkSum, Nat.succ_mul, e]
        omega
    have h6 := hsum wk (Nat.le_refl _)
    have h7 : wk * 262144 ≤ 262144 * 262144 := Nat.mul_le_mul (by omega) (Nat.le_refl _)
    omega

/-- A second growth. -/
theorem Ready.again {w W W' : World} {g : GA} {f0 f1 s0 s1 : Value} {aN aF aS : Option Addr} (h : Ready w W g f0 f1 s0 s1 aN aF aS) (hb : Below W.heap.size W W') {rn rn2 : List Nat} {S S2 : Nat → Bool} {wk wk2 f f2 : Nat} (hR : RA W' g W.heap.size rn S wk) {bg : Nat} (hbg : g.bg = bg) {di node goal goal2 : Int} (hd : ((g.d : Nat) : Int) = di)
    (hn0 : -2147483648 ≤ node) (hn1 : node ≤ 2147483647) (hg0 : -2147483648 ≤ goal2) (hg1 : goal2 ≤ 2147483647) (h1 : Grown g node goal rn S wk f) (h2 : Grown g node goal2 rn2 S2 wk2 f2) :
    Calls Try.prog 23 #[.pointer (some ⟨W.heap.size, 0, none⟩), .pointer (some ⟨bg, 0, none⟩), .int .i32 node, .int .i64 di, .int .i32 goal2] W' fun e w'' =>
      ∃ f' : Nat, e = .returned (.int .i64 (f' : Int)) ∧ Below W.heap.size W w'' ∧ Ready w w'' g f0 f1 s0 s1 aN aF aS ∧ ((wk < wk2 ∧ RA w'' g W.heap.size rn2 S2 wk2 ∧ f + f' = f2) ∨ (wk2 ≤ wk ∧ RA w'' g W.heap.size rn S wk ∧ f + f' = f)) := by
  subst hbg hd
  refine (again_any W' g W.heap.size node goal goal2 hn0 hn1 hg0 hg1 h.ok (h.gph.kept (Kept.of_below hb)) hR h1 h2).mono ?_
  rintro e w'' ⟨f', rfl, hb2, hr⟩
  have hb3 : Below W.heap.size W w'' := hb.trans hb2
  exact ⟨f', rfl, hb3, h.next hb3, hr⟩

theorem walked_any {w : World} {g : GA} {br : Nat} {rn : List Nat} {S : Nat → Bool} {wk : Nat} (h : RA w g br rn S wk) :
    Calls Try.prog 25 #[.pointer (some ⟨br, 0, none⟩)] w fun e w' => e = .returned (.int .i64 (wk : Int)) ∧ w' = w := by
  obtain ⟨vn, few, many, h⟩ := h
  exact reachWalked_any h

theorem same_of {w : World} {g : GA} (hg : g.Ok) {n bx bz wk : Nat} {rn : List Nat} {S : Nat → Bool} (hn : g.n = n) (hX : RA w g bx rn S wk) (hZ : RA w g bz rn S wk) :
    Calls Try.prog 26 #[.pointer (some ⟨bx, 0, none⟩), .pointer (some ⟨bz, 0, none⟩), .int .i64 (n : Int)] w fun e w' => e = .returned (.bool true) ∧ Below w.heap.size w w' := by
  subst hn
  refine (same_any w g hg.n1 bx bz rn S wk hX hZ).mono ?_
  rintro e w' ⟨rfl, q, rfl⟩
  exact ⟨rfl, ((Kept.of_below (Below.refl w.heap.size w)).drewN q).below⟩

end Go.Proofs.Qxb6619590a
