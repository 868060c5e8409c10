/-
  Statements 4 and 5: one growth of a new reach, a second growth of it.
-/
import Derived.Test.Qxb6619590aGrBoxes
import Derived.Test.Qxb6619590aGrSame
namespace Go.Proofs.Qxb6619590a
open Go.RowKit Go.Deep Go.Maps

theorem RA.below {w w' : World} {g : GA} {br : Nat} {rn : List Nat} {S : Nat → Bool} {wk : Nat} (h : RA w g br rn S wk) (hb : Below w.heap.size w w') : RA w' g br rn S wk := by
  obtain ⟨vn, few, many, h⟩ := h
  exact ⟨vn, few, many, h.below hb⟩

/-- What one growth of a new reach leaves. -/
def Grown (g : GA) (node goal : Int) (rn : List Nat) (S : Nat → Bool) (wk f : Nat) : Prop :=
  (g.on node = false ∧ rn = [] ∧ S = (fun _ => false) ∧ wk = 0 ∧ f = 0) ∨
  (g.on node = true ∧ rn = stg g (g.ix node) wk ∧ S = metWith (fun _ => false) (g.ix node) ∧ Live g goal (stg g (g.ix node)) 0 wk ∧ ((stg g (g.ix node) wk).length ≤ wk ∨ hit g goal (stg g (g.ix node) wk) = true) ∧ f = deg g (g.ix node) + walkSum g (stg g (g.ix node)) wk)

theorem none_stages (g : GA) : Stages g (fun _ => []) := fun t h => by cases h

theorem none_live {g : GA} {goal : Int} {a b : Nat} (hab : a ≤ b) (h : Live g goal (fun _ => []) a b) : b = a := by
  rcases Nat.lt_or_ge a b with hl | hl
  · have := (h a (Nat.le_refl _) hl).1
    cases this
  · omega

theorem fresh_any (w : World) (g : GA) (br : Nat) (node goal : Int) (hn0 : -2147483648 ≤ node) (hn1 : node ≤ 2147483647) (hg0 : -2147483648 ≤ goal) (hg1 : goal ≤ 2147483647) (hg : g.Ok) (hG : Gph w (· < br) g) (hR : RA w g br [] (fun _ => false) 0) :
    Calls Try.prog 23 #[.pointer (some ⟨br, 0, none⟩), .pointer (some ⟨g.bg, 0, none⟩), .int .i32 node, .int .i64 (g.d : Int), .int .i32 goal] w fun e w' =>
      ∃ rn S wk f, e = .returned (.int .i64 ((f : Nat) : Int)) ∧ Below br w w' ∧ RA w' g br rn S wk ∧ Grown g node goal rn S wk f := by
  by_cases hon : g.on node = true
  · refine zzGrow_any _ _ _ _ _ ((grow_any w g br [] (fun _ => false) (metWith (fun _ => false) (g.ix node)) 0 (by omega) (stg g (g.ix node)) (deg g (g.ix node)) node goal hn0 hn1 hg0 hg1 hg hG hR (stg_stages g _) (.inr ⟨hon, by simp [mm], rfl, rfl, rfl⟩)).mono ?_) ?_ rfl
    · rintro e w' ⟨b, hab, hl, hs, rfl, hb, hr⟩
      exact ⟨_, _, b, _, rfl, hb, hr, .inr ⟨hon, rfl, rfl, hl, hs, by simp [walkSum]⟩⟩
    · rintro e w' ⟨_, _, _, _, rfl, _⟩
      exact ⟨_, rfl⟩
  · have hoff : g.on node = false := by simpa using hon
    refine zzGrow_any _ _ _ _ _ ((grow_any w g br [] (fun _ => false) (fun _ => false) 0 (by omega) (fun _ => []) 0 node goal hn0 hn1 hg0 hg1 hg hG hR (none_stages g) (.inl ⟨.inl hoff, rfl, rfl, rfl⟩)).mono ?_) ?_ rfl
    · rintro e w' ⟨b, hab, hl, hs, rfl, hb, hr⟩
      obtain rfl := none_live hab hl
      exact ⟨_, _, _, _, rfl, hb, hr, .inl ⟨hoff, rfl, rfl, rfl, by simp [walkSum]⟩⟩
    · rintro e w' ⟨_, _, _, _, rfl, _⟩
      exact ⟨_, rfl⟩

theorem walkSum_mono (g : GA) (T : Nat → List Nat) {a b : Nat} (h : a ≤ b) : walkSum g T a ≤ walkSum g T b := by
  induction h with
  | refl => exact Nat.le_refl _
  | step _ ih => exact Nat.le_trans ih (by simp [walkSum])

theorem hit_later {g : GA} {goal : Int} {src a b : Nat} (h : a ≤ b) (hh : hit g goal (stg g src a) = true) : hit g goal (stg g src b) = true := by
  obtain ⟨x, hx⟩ := stg_ext g src h
  rw [hx]
  unfold hit Qxb6619590a.hh at *
  simp only [Bool.and_eq_true] at hh ⊢
  refine ⟨hh.1, ?_⟩
  have := hh.2
  simp_all

/-- Where a second growth stops: at the later goal's stage. -/
theorem later {g : GA} {goal goal2 : Int} {src a b c : Nat} (h1 : Live g goal (stg g src) 0 a) (h2 : Live g goal2 (stg g src) 0 c) (s2 : (stg g src c).length ≤ c ∨ hit g goal2 (stg g src c) = true)
    (hab : a ≤ b) (h3 : Live g goal2 (stg g src) a b) (s3 : (stg g src b).length ≤ b ∨ hit g goal2 (stg g src b) = true) : b = if a < c then c else a := by
  split
  · rename_i hac
    rcases Nat.lt_trichotomy b c with hl | he | hl
    · have := h2 b (by omega) hl
      rcases s3 with s | s
      · omega
      · rw [this.2] at s; cases s
    · exact he
    · have := h3 c (by omega) hl
      rcases s2 with s | s
      · omega
      · rw [this.2] at s; cases s
  · rename_i hac
    rcases Nat.lt_or_ge a b with hl | hl
    · exfalso
      have h := h3 a (Nat.le_refl _) hl
      rcases s2 with s | s
      · rcases Nat.lt_or_ge c a with hca | hca
        · have := (h1 c (by omega) hca).1
          omega
        · obtain rfl : c = a := by omega
          omega
      · have := hit_later (show c ≤ a by omega) s
        rw [h.2] at this
        cases this
    · omega

theorem again_any (w : World) (g : GA) (br : Nat) (node goal goal2 : Int) (hn0 : -2147483648 ≤ node) (hn1 : node ≤ 2147483647) (hg0 : -2147483648 ≤ goal2) (hg1 : goal2 ≤ 2147483647) (hg : g.Ok) (hG : Gph w (· < br) g) {rn rn2 : List Nat} {S S2 : Nat → Bool} {wk wk2 f f2 : Nat} (hR : RA w g br rn S wk) (h1 : Grown g node goal rn S wk f) (h2 : Grown g node goal2 rn2 S2 wk2 f2) :
    Calls Try.prog 23 #[.pointer (some ⟨br, 0, none⟩), .pointer (some ⟨g.bg, 0, none⟩), .int .i32 node, .int .i64 (g.d : Int), .int .i32 goal2] w fun e w' =>
      ∃ f', e = .returned (.int .i64 ((f' : Nat) : Int)) ∧ Below br w w' ∧ ((wk < wk2 ∧ RA w' g br rn2 S2 wk2 ∧ f + f' = f2) ∨ (wk2 ≤ wk ∧ RA w' g br rn S wk ∧ f + f' = f)) := by
  rcases h1 with ⟨hoff, rfl, rfl, rfl, rfl⟩ | ⟨hon, rfl, rfl, hl1, hs1, rfl⟩
  · rcases h2 with ⟨_, rfl, rfl, rfl, rfl⟩ | ⟨hon, _⟩
    · refine zzGrow_any _ _ _ _ _ ((grow_any w g br [] (fun _ => false) (fun _ => false) 0 (by omega) (fun _ => []) 0 node goal2 hn0 hn1 hg0 hg1 hg hG hR (none_stages g) (.inl ⟨.inl hoff, rfl, rfl, rfl⟩)).mono ?_) ?_ rfl
      · rintro e w' ⟨b, hab, hl, hs, rfl, hb, hr⟩
        obtain rfl := none_live hab hl
        exact ⟨_, rfl, hb, .inr ⟨Nat.le_refl _, hr, by simp [walkSum]⟩⟩
      · rintro e w' ⟨_, rfl, _⟩
        exact ⟨_, rfl⟩
    · rw [hoff] at hon; cases hon
  · rcases h2 with ⟨hoff, _⟩ | ⟨_, rfl, rfl, hl2, hs2, rfl⟩
    · rw [hoff] at hon; cases hon
    · have hwk : wk ≤ 1000000 := by
        have h1 := live_le hl1
        obtain ⟨vn, few, many, h⟩ := hR
        have h2 := h.len
        have h3 := cnt_le (hh (stg g (g.ix node) wk)) g.n
        have h4 := hg.n1
        omega
      refine zzGrow_any _ _ _ _ _ ((grow_any w g br _ _ (metWith (fun _ => false) (g.ix node)) wk hwk (stg g (g.ix node)) 0 node goal2 hn0 hn1 hg0 hg1 hg hG hR (stg_stages g _) (.inl ⟨.inr (by simp [mm, metWith]), rfl, rfl, rfl⟩)).mono ?_) ?_ rfl
      · rintro e w' ⟨b, hab, hl, hs, rfl, hb, hr⟩
        have hlat := later hl1 hl2 hs2 hab hl hs
        refine ⟨_, rfl, hb, ?_⟩
        by_cases hac : wk < wk2
        · rw [if_pos hac] at hlat
          subst hlat
          have := walkSum_mono g (stg g (g.ix node)) hab
          exact .inl ⟨hac, hr, by omega⟩
        · rw [if_neg hac] at hlat
          subst hlat
          exact .inr ⟨by omega, hr, by omega⟩
      · rintro e w' ⟨_, rfl, _⟩
        exact ⟨_, rfl⟩

theorem check_any (w : World) (g : GA) (hg : g.Ok) (aN aF aS : Option Addr) (cN cF cS : Nat) (hN : Ints w (· < w.heap.size) aN g.n g.vN) (hF : Ints w (· < w.heap.size) aF (g.n + 1) (fun k => (g.FR k : Int))) (hS : Ints w (· < w.heap.size) aS g.ls (fun k => (g.ST k : Int)))
    (node goal : Int) (br wk f : Nat) (rn : List Nat) (S : Nat → Bool) (hR : RA w g br rn S wk) (h : Grown g node goal rn S wk f) :
    Calls Try.prog 24 #[.slice aN g.n cN, .slice aF (g.n + 1) cF, .slice aS g.ls cS, .int .i32 node, .int .i32 goal, .pointer (some ⟨br, 0, none⟩), .int .i64 ((f : Nat) : Int)] w fun e w' => e = .returned (.bool true) ∧ Below w.heap.size w w' := by
  rcases h with ⟨hoff, rfl, rfl, rfl, rfl⟩ | ⟨hon, rfl, rfl, hl, hs, rfl⟩
  · exact check_off w g hg.n1 _ aN aF aS cN _ cF _ cS hN node goal br hR hoff
  · exact check_on w g hg aN aF aS cN cF cS hN hF hS node goal br _ wk hon rfl hR hl hs _ rfl

end Go.Proofs.Qxb6619590a
