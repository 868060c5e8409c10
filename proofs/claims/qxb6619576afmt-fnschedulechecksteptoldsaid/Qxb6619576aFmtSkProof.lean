/-
  Statement 3 (FnScheduleCheckStep): the told card.
-/
import Derived.Test.Qxb6619576aFmtCards
import Derived.Test.Qxb6619576aFmtSkMain
import Derived.ProofKit
import Derived.Deep.SlicePairs
import Derived.ChangeSlices
import Derived.ChangeSame
import Derived.ChangeMaps5
import Derived.JoinedOf
import Derived.Carry
import Derived.Stop.JoinedAt
import Derived.Stop.Texts
import Derived.Stop.JoinedTold
import Derived.SizedLaws
import Derived.SevenToldRow
namespace Go.Proofs.Qxb6619576aFmt
open Go.ChangeShapes Go.WideShapes Go.ChangeAt Go.RowKit Go.Kit Go.Deep
open Go.Extern.Stop Go.Stop Go.Extern

theorem Tryf.own : ownKnob Tryf.prog.godebug = none := by kernel_rfl
theorem Tryf.laidOut : laidOutB Tryf.pinned.checked.prog = true := by kernel_rfl
theorem Tryf.cells42 : Tryf.prog.cellsOf 42 = 2 := by kernel_rfl
theorem Tryf.cells3 : Tryf.prog.cellsOf 3 = 1 := by kernel_rfl
theorem Tryf.cells22 : Tryf.prog.cellsOf 22 = 1 := by kernel_rfl

theorem trod_float {H : Type} {enc : TypeId × Value → H} {P : Program} {w : World} {base : Nat} {spare : Nat → Bool} {held : Bool} {fuel : Nat} {t : TypeId} {v : Value} {x : DataW H × List MemPlace} (ht : P.underlying t = some (.float .f64))
    (h : DataW.trod enc P w base spare held fuel t [v] = some x) : ∃ n, v = .float .f64 n := by
  cases fuel with
  | zero => simp [DataW.trod] at h
  | succ n =>
    unfold DataW.trod at h
    rw [ht] at h
    split at h <;> simp_all

theorem add_zero' (a : Addr) : a.add 0 = a := by simp [Addr.add]

/-- The argument, as steps. -/
theorem open_steps {H : Type} {enc : TypeId × Value → H} {w : World} {fuel : Nat} {a0 : Option Addr} {len cap : Nat} {x : DataW H × List MemPlace} (h : DataW.trod enc Tryf.prog w 0 (fun _ => true) true fuel 38 [.slice a0 len cap] = some x) :
    len ≤ 9223372036854775807 ∧ (0 < len → ∃ b o D F, a0 = some ⟨b, o, none⟩ ∧ Steps w b o len D F) := by
  rcases open_slice_pairs Tryf.underlying38 Tryf.underlying42 Tryf.cells42 rfl rfl Tryf.cells3 Tryf.cells22 h with ⟨hcs, _⟩ | ⟨a, len', cap', m, n, V0, V1, D0, D1, P0, P1, hcs, hb, hl, hm, hmm, _, hx⟩
  · simp at hcs
    obtain ⟨rfl, rfl, rfl⟩ := hcs
    exact ⟨by omega, fun h => absurd h (Nat.not_lt_zero 0)⟩
  · simp at hcs
    obtain ⟨rfl, rfl, rfl⟩ := hcs
    simp only [if_true] at hmm
    subst hmm
    refine ⟨by unfold maxLen at hm; omega, fun hpos => ?_⟩
    have each : ∀ r, r < len → ∃ y : Int × Nat, V0 r = .int .i64 y.1 ∧ V1 r = .float .f64 y.2 := by
      intro r hr
      obtain ⟨_, _, h0, h1⟩ := hx r (by omega)
      obtain ⟨d, hd, _⟩ := DataW.trod_int Tryf.underlying3 h0
      obtain ⟨f, hf⟩ := trod_float Tryf.underlying22 h1
      exact ⟨(d, f), by simpa using hd, hf⟩
    obtain ⟨y, hy⟩ := choose_lt each
    obtain ⟨b, o, spot⟩ := a
    have h0 := (hx 0 (by omega)).1
    have hspot : spot = none := by
      rw [Nat.zero_mul, add_zero'] at h0
      exact World.cell?_spot h0
    subst hspot
    rw [Nat.zero_mul, add_zero'] at h0
    refine ⟨b, o, fun r => (y r).1, fun r => (y r).2, rfl, World.block_lt_of_cell? _ _ h0, fun r hr => ?_, fun r hr => ?_⟩
    · have := (hx r (by omega)).1
      rw [Addr.add_lit, (hy r hr).1] at this
      exact this
    · have := (hx r (by omega)).2.1
      rw [Addr.add_lit, (hy r hr).2, ← Nat.add_assoc] at this
      exact this

theorem fn6_any (I : Interp) (w : World) (hF : I.answers w.tape) (a0 : Option Addr) (n cp : Nat) (k : Int) (hn : n ≤ 9223372036854775807) (h : 0 < n → ∃ b o D F, a0 = some ⟨b, o, none⟩ ∧ Steps w b o n D F) :
    Calls Tryf.prog 6 #[.slice a0 n cp, .int .i64 k] w fun e w' => e = .returned (.bool true) ∧ Below w.heap.size w w' := by
  by_cases h1 : 4096 < n
  · exact fn6_long w a0 n cp k h1 hn
  by_cases h2 : k < 0 ∨ (n : Int) ≤ k
  · exact fn6_out w a0 n cp k (by omega) h2
  obtain ⟨m, rfl⟩ : ∃ m : Nat, k = (m : Int) := ⟨k.toNat, by omega⟩
  obtain ⟨b, o, D, F, rfl, hs⟩ := h (by omega)
  by_cases h3 : m = 0
  · subst h3
    cases hg : stepB D F 0
    · exact fn6_0f I w hF b o n cp D F hs (by omega) (by omega) hg
    · exact fn6_0t I w hF b o n cp D F hs (by omega) (by omega) hg
  · by_cases hv : Valid D F m
    · cases hg : stepB D F m
      · exact fn6_vf I w hF b o n cp m D F hs (by omega) (by omega) (by omega) hg hv
      · exact fn6_vt I w hF b o n cp m D F hs (by omega) (by omega) (by omega) hg hv
    · cases hg : stepB D F m
      · exact fn6_if I w hF b o n cp m D F hs (by omega) (by omega) (by omega) hg hv
      · exact fn6_it I w hF b o n cp m D F hs (by omega) (by omega) (by omega) hg hv

set_option maxRecDepth 100000 in
theorem t_lifted (os : Os) (started : os.Started) (H : Type) (enc : TypeId × Value → H) :
    ReturnsInTold none {} Tryf.checked os 6 .any Input.okWide ((OpenSpec.ofChange Rows.fnScheduleCheckStepSpec).preRow enc Tryf.prog Tryf.f6 [] false []) (fun F => ((OpenSpec.ofChange Rows.fnScheduleCheckStepSpec).at F).post enc Tryf.prog Tryf.f6 false true false false) (aloneAtReturn Tryf.prog) nothingAlways := by
  refine returnsInTold_of_row (C := Tryf.checked) (s := OpenSpec.ofChange Rows.fnScheduleCheckStepSpec) (by kernel_rfl) Tryf.own started (by kernel_rfl) Tryf.func6
    (OpenSpec.witness_stopped (enc := enc) (C := Tryf.checked) false ⟨#[], #[.slice none 0 0, .int .i64 0], []⟩ 8 (by kernel_rfl) (by kernel_rfl) (by kernel_rfl) (by kernel_rfl)) ?_
  intro F W base args ds gs before _ hF hval0 hW _ _ hsz _ _
  have hval : ∀ (j : Nat) t v, Tryf.f6.params[j]? = some t → args[j]? = some v → Value.okWide Tryf.prog W .any base t v := hval0
  have hW' := hW
  obtain ⟨p, q, hA0, hV, rfl, _, _⟩ := hW
  have hA : DataW.TrodAll enc Tryf.prog W 0 (fun _ => true) true Tryf.f6.params.toList args.toList ds p := hA0
  rw [Tryf.params6] at hA hval
  obtain ⟨v0, v1, d0, d1, p0, p1, hargs, rfl, rfl, h0, h1⟩ := trodAll_two hA
  obtain rfl : args = #[v0, v1] := by cases args; simp_all
  obtain ⟨rfl, rfl⟩ := trodVars_none hV
  obtain ⟨a0, len, cap, rfl⟩ := okWide_slice Tryf.underlying38 (hval 0 38 v0 rfl rfl)
  obtain ⟨k, rfl, rfl, rfl, wk⟩ := open_int Tryf.underlying3 (hval 1 3 v1 rfl rfl) h1
  have h0k := h0
  obtain ⟨fuel, hf⟩ := h0
  clear hA0 hval0
  simp only [List.append_nil] at hW'
  have hlt : ∀ x ∈ p0, x.block < W.heap.size := fun x hx => by simpa using hW'.lt x hx
  obtain ⟨hn, hst⟩ := open_steps (by simpa [Value.cells] using hf)
  refine (fn6_any F.told W hF a0 len cap k hn hst).mono fun e W' ⟨he, hnx⟩ => ?_
  subst he
  have t0 : DataW.Trod enc Tryf.prog W' 0 (fun b => decide (b < W.heap.size)) true 38 (.slice a0 len cap) d0 p0 := Below.trod Tryf.laidOut (by kernel_rfl) (of_decide_eq_true (by kernel_rfl)) h0k hnx hlt
  refine ⟨_, rfl, _, _, _, [], p0 ++ [], [], hW', ?_, trodAll_mk2 t0 (shut_int Tryf.underlying3 wk), rfl, hnx.frame _, fun h => by cases h⟩
  exact trodAll_mk1 (shut_bool Tryf.underlying4 true)

theorem Tryf.stops : Tryf.pinned.checked.prog.stops = ["fmt.errorf"] := by kernel_rfl
theorem Tryf.stopKnobs : Tryf.pinned.checked.prog.stopKnobs = [] := by kernel_rfl
theorem Tryf.quiet (os : Os) : Stop.quiet Tryf.pinned.checked.prog os := by
  intro k hk
  rw [Tryf.stopKnobs] at hk
  cases hk

theorem checkStep_holds : Rows.FnScheduleCheckStepToldSaid :=
  Claim7.holds_of_told_any 6 Tryf.f6 "fmt.errorf" [] [] _ _ _ (by kernel_rfl) rfl rfl rfl Tryf.laidOut (by kernel_rfl) rfl ⟨rfl, rfl, rfl, rfl, rfl, rfl, rfl⟩ rfl rfl (by kernel_rfl) (by kernel_rfl) Tryf.func6 (by kernel_rfl)
    (of_decide_eq_true (by kernel_rfl)) (of_decide_eq_true (by kernel_rfl)) Tryf.stops.symm rfl Tryf.stopKnobs.symm (by kernel_rfl)
    (by kernel_rfl) (by kernel_rfl) (by kernel_rfl) (by kernel_rfl) (by kernel_rfl) (by kernel_rfl) (by kernel_rfl) (by kernel_rfl) (by kernel_rfl) rfl (by kernel_rfl) rfl rfl
    rfl rfl
    rfl (by kernel_rfl) (by kernel_rfl) (by kernel_rfl) (by decide) (by kernel_rfl)
    (OpenClaim.moreEntering_of (by kernel_rfl) (by kernel_rfl) (by kernel_rfl) (by kernel_rfl) (by kernel_rfl) (by kernel_rfl) (by kernel_rfl) (by kernel_rfl) (by kernel_rfl) (by kernel_rfl))
    ⟨_, WideRow.started_initial, Tryf.quiet _⟩
    (fun os started _ H enc _ => t_lifted os started H enc)

end Go.Proofs.Qxb6619576aFmt
