/-
  Statements 4 and 5: the graph; its functions number (36) and step (35).
-/
import Derived.Test.Qxb6619590aGrBase
namespace Go.Proofs.Qxb6619590a
open Go.RowKit Go.Deep Go.Maps

theorem Try.elem22 : Try.prog.elem 22 = 21 := by kernel_rfl
theorem Try.size21 : (Try.prog.info? 21).map (·.size) = some 1 := by kernel_rfl
theorem zero21 (w : World) : (zeroValue 21).run Try.prog w = .ok (.int .i32 0) w := by kernel_rfl

/-- 'x[l:h]'. -/
theorem sliceLH (a : Option Addr) (len cap l h : Nat) (h1 : l ≤ h) (h2 : h ≤ cap) :
    ∃ a' : Option Addr, (∀ W, (Instr.slice 22 (.slice a len cap) (some (.int .i32 (l : Int))) (some (.int .i32 (h : Int))) none).run Try.prog W = .ok (.slice a' (h - l) (cap - l)) W) ∧ (∀ b o, a = some ⟨b, o, none⟩ → l < cap → a' = some ⟨b, o + l, none⟩) := by
  cases hq : Try.prog.info? 21 with
  | none => have := Try.size21; simp [hq] at this
  | some i =>
    have hi : i.size = 1 := by have := Try.size21; simpa [hq] using this
    refine ⟨if cap = l then a else a.map (·.add (l * 1)), fun W => ?_, fun b o e hl => ?_⟩
    · rw [run_slice_lh W 22 a len cap (by rw [Try.elem22]; exact Try.underlying22) .i32 .i32 (l : Int) (h : Int) (by omega) (by omega) (by omega), Try.elem22]
      simp [sizeOf, typeInfo, hq, hi, sliced]
    · rw [if_neg (by omega), e, Option.map_some, Addr.add_lit, Nat.mul_one]

/-- n integers at 'ao', in blocks of G. -/
def Ints (w : World) (G : Nat → Prop) (ao : Option Addr) (n : Nat) (f : Nat → Int) : Prop := ∀ i, i < n → ∃ b o, ao = some ⟨b, o, none⟩ ∧ G b ∧ w.cell? ⟨b, o + i, none⟩ = some (.int .i32 (f i))

theorem Ints.kept {w w' : World} {G : Nat → Prop} {ao : Option Addr} {n : Nat} {f : Nat → Int} (h : Ints w G ao n f) (hk : Kept G w w') : Ints w' G ao n f := fun i hi => by
  obtain ⟨b, o, e, hg, hc⟩ := h i hi
  exact ⟨b, o, e, hg, by rw [hk.cell (p := ⟨b, o + i, none⟩) hg]; exact hc⟩

structure GA where
  bg : Nat
  d : Nat
  n : Nat
  ls : Nat
  aN : Option Addr
  aF : Option Addr
  aS : Option Addr
  vN : Nat → Int
  FR : Nat → Nat
  ST : Nat → Nat

def GA.on (g : GA) (x : Int) : Bool := (List.range g.n).any (fun i => g.vN i == x)
def GA.ix (g : GA) (x : Int) : Nat := ((List.range g.n).find? (fun i => g.vN i == x)).getD 0

/-- The plain premise. -/
structure GA.Ok (g : GA) : Prop where
  dir : g.d ≤ 1
  n1 : g.n ≤ 262144
  ls1 : g.ls ≤ 262144
  inj : ∀ i j, i < g.n → j < g.n → g.vN i = g.vN j → i = j
  mono : ∀ k, k < g.n → g.FR k ≤ g.FR (k + 1)
  top : g.FR g.n ≤ g.ls
  st : ∀ e, e < g.ls → g.ST e < g.n
  i32 : ∀ i, i < g.n → -2147483648 ≤ g.vN i ∧ g.vN i ≤ 2147483647

theorem GA.Ok.le {g : GA} (h : g.Ok) : ∀ j k, j ≤ k → k ≤ g.n → g.FR j ≤ g.FR k := by
  intro j k hjk
  induction hjk with
  | refl => exact fun _ => Nat.le_refl _
  | step _ ih => exact fun hk => Nat.le_trans (ih (by omega)) (h.mono _ (by omega))

theorem GA.ix_at {g : GA} (h : g.Ok) {i : Nat} (hi : i < g.n) : g.on (g.vN i) = true ∧ g.ix (g.vN i) = i := by
  have h1 : g.on (g.vN i) = true := List.any_eq_true.2 ⟨i, List.mem_range.2 hi, by simp⟩
  refine ⟨h1, ?_⟩
  unfold GA.ix
  cases e : (List.range g.n).find? (fun j => g.vN j == g.vN i) with
  | none =>
    have := List.find?_eq_none.1 e i (List.mem_range.2 hi)
    simp at this
  | some j =>
    have h2 := List.find?_some e
    have h3 := List.mem_range.1 (List.mem_of_find?_eq_some e)
    exact h.inj j i h3 hi (by simpa using h2)

theorem GA.ix_on {g : GA} {x : Int} (h : g.on x = true) : g.ix x < g.n ∧ g.vN (g.ix x) = x := by
  unfold GA.ix
  cases e : (List.range g.n).find? (fun j => g.vN j == x) with
  | none =>
    obtain ⟨i, hi, hx⟩ := List.any_eq_true.1 h
    exact absurd hx (List.find?_eq_none.1 e i hi)
  | some j =>
    have h2 : (fun j => g.vN j == x) j = true := List.find?_some (p := fun j => g.vN j == x) e
    exact ⟨List.mem_range.1 (List.mem_of_find?_eq_some e), by simpa using h2⟩

theorem GA.ix_off {g : GA} {x : Int} (h : g.on x = false) : g.ix x = 0 := by
  unfold GA.ix
  cases e : (List.range g.n).find? (fun j => g.vN j == x) with
  | none => rfl
  | some j =>
    have h2 : g.on x = true := List.any_eq_true.2 ⟨j, List.mem_of_find?_eq_some e, List.find?_some (p := fun j => g.vN j == x) e⟩
    rw [h] at h2; cases h2

structure Gph (w : World) (G : Nat → Prop) (g : GA) : Prop where
  lt : G g.bg
  c0 : w.cell? ⟨g.bg, 0, none⟩ = some (.slice g.aN g.n g.n)
  cF : w.cell? ⟨g.bg, 4 + g.d, none⟩ = some (.slice g.aF (g.n + 1) (g.n + 1))
  cS : w.cell? ⟨g.bg, 6 + g.d, none⟩ = some (.slice g.aS g.ls g.ls)
  nodes : Ints w G g.aN g.n g.vN
  from' : Ints w G g.aF (g.n + 1) (fun k => (g.FR k : Int))
  steps : Ints w G g.aS g.ls (fun k => (g.ST k : Int))
  num : ∀ x : Int, -2147483648 ≤ x → x ≤ 2147483647 → ∀ w', Kept G w w' → Calls Try.prog 36 #[.pointer (some ⟨g.bg, 0, none⟩), .int .i32 x] w' fun e w'' => e = .returned (.tuple #[.int .i32 (g.ix x : Int), .bool (g.on x)]) ∧ w'' = w'

theorem Gph.kept {w w' : World} {G : Nat → Prop} {g : GA} (h : Gph w G g) (hk : Kept G w w') : Gph w' G g :=
  ⟨h.lt, by rw [hk.cell (p := ⟨g.bg, 0, none⟩) h.lt]; exact h.c0, by rw [hk.cell (p := ⟨g.bg, 4 + g.d, none⟩) h.lt]; exact h.cF, by rw [hk.cell (p := ⟨g.bg, 6 + g.d, none⟩) h.lt]; exact h.cS,
   h.nodes.kept hk, h.from'.kept hk, h.steps.kept hk, fun x hx hy w'' hk' => h.num x hx hy w'' (hk.trans hk')⟩

def StepIs (w : World) (G : Nat → Prop) (g : GA) (k : Nat) (e : Ending) (w' : World) : Prop :=
  ∃ a q, e = .returned (.slice a (g.FR (k + 1) - g.FR k) (g.ls - g.FR k)) ∧ w' = w.drewN q ∧ Ints w G a (g.FR (k + 1) - g.FR k) (fun j => (g.ST (g.FR k + j) : Int))

set_option maxHeartbeats 1000000 in
theorem step_any (w : World) (G : Nat → Prop) (g : GA) (h : Gph w G g) (hg : g.Ok) (k : Nat) (hk : k < g.n) :
    Calls Try.prog 35 #[.pointer (some ⟨g.bg, 0, none⟩), .int .i64 (g.d : Int), .int .i32 (k : Int)] w (StepIs w G g k) := by
  have h1 := hg.mono k hk
  have h2 : g.FR (k + 1) ≤ g.ls := Nat.le_trans (hg.le (k + 1) g.n (by omega) (Nat.le_refl _)) hg.top
  obtain ⟨a', hsl, hat⟩ := sliceLH g.aS g.ls g.ls (g.FR k) (g.FR (k + 1)) h1 h2
  obtain ⟨bF, oF, eF, _, f0⟩ := h.from' k (by omega)
  obtain ⟨bF', oF', eF', _, f1⟩ := h.from' (k + 1) (by omega)
  rw [eF] at eF'
  cases eF'
  have cF := h.cF
  have cS := h.cS
  rw [eF] at cF
  have hfin : Ints w G a' (g.FR (k + 1) - g.FR k) (fun j => (g.ST (g.FR k + j) : Int)) := fun j hj => by
    obtain ⟨b, o, e, hb, hc⟩ := h.steps (g.FR k + j) (by omega)
    exact ⟨b, o + g.FR k, hat b o e (by omega), hb, by rw [Nat.add_assoc]; exact hc⟩
  have hn1 := hg.n1
  have hls := hg.ls1
  obtain ⟨m, hm⟩ : ∃ m, m = g.n + 1 := ⟨_, rfl⟩
  obtain ⟨k1, hk1⟩ : ∃ k1, k1 = k + 1 := ⟨_, rfl⟩
  have hw1 : IntKind.i32.wrap ((k : Int) + 1) = (k1 : Int) := by rw [wrap_in32 _ (by omega) (by omega)]; omega
  have f1' : w.cell? ⟨bF, oF + k1, none⟩ = some (.int .i32 (g.FR (k + 1) : Int)) := by rw [hk1]; exact f1
  have hd := hg.dir
  have hkm : (k : Int) < m := by omega
  have hk1m : (k1 : Int) < m := by omega
  rw [← hm] at cF
  replace f0 : w.cell? ⟨bF, oF + k, none⟩ = some (.int .i32 (g.FR k : Int)) := f0
  clear h hat f1
  have HF : Hid (∀ a q, a = a' → StepIs w G g k (.returned (.slice a (g.FR (k + 1) - g.FR k) (g.ls - g.FR k))) (w.drewN q)) := fun a q e => ⟨a, q, rfl, rfl, e ▸ hfin⟩
  obtain ⟨post, hpost⟩ : ∃ post, post = StepIs w G g k := ⟨_, rfl⟩
  rw [← hpost] at HF ⊢
  clear hpost hfin
  generalize g.FR k = lo at *
  generalize g.FR (k + 1) = hi at *
  generalize g.d = d at *
  generalize g.n = n at *
  generalize g.ls = ls at *
  generalize g.aS = aS at *
  generalize g.bg = bg at *
  clear hg eF hm hk1
  have hlo : (lo : Int) ≤ hi := by omega
  have hhi : (hi : Int) ≤ ls := by omega
  obtain rfl | rfl : d = 0 ∨ d = 1 := by omega
  all_goals
    go_enter Try.func35, Try.ntmps35
    go_wp2_with fail
    go_quiet (fail)
    go_wp2_with fail
    exact HF.out _ _ rfl

/-- What number answers in the dense case. -/
def denseOn (vD : Nat → Int) (lD : Nat) (mn x : Int) : Bool := decide (0 ≤ x - mn ∧ x - mn < lD ∧ 0 < vD (x - mn).toNat)
def denseIx (vD : Nat → Int) (lD : Nat) (mn x : Int) : Int := if denseOn vD lD mn x then vD (x - mn).toNat - 1 else 0

set_option maxHeartbeats 1000000 in
theorem number_dense (w : World) (bg : Nat) (aD : Addr) (lD : Nat) (mn : Int) (vD : Nat → Int) (G : Nat → Prop) (c1 : w.cell? ⟨bg, 1, none⟩ = some (.int .i32 mn)) (c2 : w.cell? ⟨bg, 2, none⟩ = some (.slice (some aD) lD lD))
    (hD : Ints w G (some aD) lD vD) (hv : ∀ i, i < lD → vD i ≤ 2147483647) (x : Int) (hx0 : -2147483648 ≤ x) (hx1 : x ≤ 2147483647) (hm0 : -2147483648 ≤ mn) (hm1 : mn ≤ 2147483647) :
    Calls Try.prog 36 #[.pointer (some ⟨bg, 0, none⟩), .int .i32 x] w fun e w' => e = .returned (.tuple #[.int .i32 (denseIx vD lD mn x), .bool (denseOn vD lD mn x)]) ∧ w' = w := by
  have hq := fun w a n c n' c' => run_neq_slice_nil_any (P := Try.prog) w 22 21 a n c n' c' Try.underlying22
  unfold denseIx denseOn
  by_cases h0 : 0 ≤ x - mn
  · by_cases h1 : x - mn < lD
    · have hi : (x - mn).toNat < lD := by omega
      obtain ⟨b, o, rfl', _, hc⟩ := hD (x - mn).toNat hi
      cases rfl'
      have hvi := hv (x - mn).toNat hi
      generalize vD (x - mn).toNat = v at *
      by_cases h2 : 0 < v
      · rw [decide_eq_true ⟨h0, h1, h2⟩, if_pos rfl]
        have hw2 := wrap_in32 (v - 1) (by omega) (by omega)
        clear hD hv
        go_enter Try.func36, Try.ntmps36
        go_wp2_with fail
        go_ret2
        exact ⟨rfl, rfl⟩
      · rw [decide_eq_false (by omega), if_neg (by simp)]
        clear hD hv
        go_enter Try.func36, Try.ntmps36
        go_wp2_with fail
        go_ret2
        exact ⟨rfl, rfl⟩
    · rw [decide_eq_false (by omega), if_neg (by simp)]
      clear hD hv
      go_enter Try.func36, Try.ntmps36
      go_wp2_with fail
      go_ret2
      exact ⟨rfl, rfl⟩
  · rw [decide_eq_false (by omega), if_neg (by simp)]
    clear hD hv
    go_enter Try.func36, Try.ntmps36
    go_wp2_with fail
    go_ret2
    exact ⟨rfl, rfl⟩

set_option maxHeartbeats 1000000 in
theorem number_map (w : World) (bg : Nat) (m : Value) (x v : Int) (b : Bool) (c2 : w.cell? ⟨bg, 2, none⟩ = some (.slice none 0 0)) (c3 : w.cell? ⟨bg, 3, none⟩ = some m)
    (hl : (Instr.lookup 41 m (.int .i32 x) true).run Try.prog w = .ok (.tuple #[.int .i32 v, .bool b]) w) :
    Calls Try.prog 36 #[.pointer (some ⟨bg, 0, none⟩), .int .i32 x] w fun e w' => e = .returned (.tuple #[.int .i32 v, .bool b]) ∧ w' = w := by
  have hq := fun w a n c n' c' => run_neq_slice_nil_any (P := Try.prog) w 22 21 a n c n' c' Try.underlying22
  go_enter Try.func36, Try.ntmps36
  go_wp2_with fail
  go_ret2
  exact ⟨rfl, rfl⟩

end Go.Proofs.Qxb6619590a
