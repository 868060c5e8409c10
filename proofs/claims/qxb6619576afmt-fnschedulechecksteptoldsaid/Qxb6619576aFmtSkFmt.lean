/-
  Statement 3: the facts that a walk over fmt.Errorf wants, and CheckStep by its contract.
-/
import Derived.Test.Qxb6619576aFmtSkPlain
import Derived.WalkKit
import Derived.WalkSpells
import Derived.WalkLawsBesides
import Derived.Stop.CallBack
import Derived.Stop.IfaceNil
import Derived.Deep.OwnRows
import Derived.Deep.LoopGhost
import Derived.Deep.QuietTactic
import Derived.BigQuiet
import GoSem.ClaimData
namespace Go.Proofs.Qxb6619576aFmt
open Go.RowKit Go.Extern.Stop Go.Stop Go.Extern Go.Deep

/-- A float is stored (the kit has this law for every other kind of one cell). -/
theorem run_store_float (P : Program) (w : World) (a : Addr) (m : Mode) (k : FloatKind) (b : Nat) : (store a (.float k b) m).run P w = stored P w a (.float k b) m := run_store P w a _ m rfl

theorem Tryf.call26 (args : Array Value) (w : World) : (callFunc 26 args).run Tryf.prog w = ((FmtStop.errorf #[9, 57] #[34] args).run Tryf.prog w).andThen fun v w' => .ok (.value v) w' :=
  run_callFunc_extern Tryf.func26 (by kernel_rfl) (by kernel_rfl) (by kernel_rfl) (by kernel_rfl) args w
theorem wrap_in (x : Int) (h0 : -4000000000000000000 ≤ x) (h1 : x ≤ 4000000000000000000) : IntKind.i64.wrap x = x := by
  rw [IntKind.wrap_i64]
  omega
theorem Tryf.guard (name : String) (w : World) : (FmtStop.guard name).run Tryf.prog w = .ok () w := by kernel_rfl
theorem Tryf.ptr60 (w : World) : (FmtStop.ptrTo "errors.errorString").run Tryf.prog w = .ok 60 w := by kernel_rfl
theorem Tryf.elem60 (w : World) : (elemOf 60).run Tryf.prog w = .ok 62 w := by kernel_rfl
theorem Tryf.ptr59 (w : World) : (FmtStop.ptrTo "fmt.wrapError").run Tryf.prog w = .ok 59 w := by kernel_rfl
theorem Tryf.elem59 (w : World) : (elemOf 59).run Tryf.prog w = .ok 81 w := by kernel_rfl
theorem Tryf.isError60 (w : World) : (FmtDoors.textMethod 60 "Error").run Tryf.prog w = .ok true w := by kernel_rfl
-- "day %d is not 1, the first day"
theorem Tryf.fmtA (w : World) : (FmtDoors.printed ⟨#[100, 97, 121, 32, 37, 100, 32, 105, 115, 32, 110, 111, 116, 32, 49, 44, 32, 116, 104, 101, 32, 102, 105, 114, 115, 116, 32, 100, 97, 121]⟩ 1).run Tryf.prog w = .ok [(0, 100, false)] w := by kernel_rfl
-- "day %d is not after the previous step's %d"
theorem Tryf.fmtB (w : World) : (FmtDoors.printed ⟨#[100, 97, 121, 32, 37, 100, 32, 105, 115, 32, 110, 111, 116, 32, 97, 102, 116, 101, 114, 32, 116, 104, 101, 32, 112, 114, 101, 118, 105, 111, 117, 115, 32, 115, 116, 101, 112, 39, 115, 32, 37, 100]⟩ 2).run Tryf.prog w = .ok [(0, 100, false), (1, 100, false)] w := by kernel_rfl
-- "share %v is outside (0, 1]"
theorem Tryf.fmtC (w : World) : (FmtDoors.printed ⟨#[115, 104, 97, 114, 101, 32, 37, 118, 32, 105, 115, 32, 111, 117, 116, 115, 105, 100, 101, 32, 40, 48, 44, 32, 49, 93]⟩ 1).run Tryf.prog w = .ok [(0, 118, false)] w := by kernel_rfl
-- "step %d: %w"
theorem Tryf.fmtD (w : World) : (FmtDoors.printed ⟨#[115, 116, 101, 112, 32, 37, 100, 58, 32, 37, 119]⟩ 2).run Tryf.prog w = .ok [(0, 100, false), (1, 119, false)] w := by kernel_rfl
def Tryf.shape3 : List UInt8 := [5, 3, 0, 0, 0, 0, 0, 0, 0, 105, 110, 116]
theorem Tryf.op3 (name : String) (x : Int) (w : World) : (FmtStop.operand name true 100 false (.iface 3 (.int .i64 x))).run Tryf.prog w = .ok (Tryf.shape3, digits 8 (x % 2 ^ 64).toNat) w := by kernel_rfl
def Tryf.shape22 : List UInt8 := 11 :: FmtStop.pack "float64".toUTF8.data.toList
theorem Tryf.op22 (name : String) (b : Nat) (w : World) : (FmtStop.operand name true 118 false (.iface 22 (.float .f64 b))).run Tryf.prog w = .ok (Tryf.shape22, digits 8 b) w := by kernel_rfl
def Tryf.plain60 : List UInt8 := 14 :: FmtStop.pack "*errors.errorString".toUTF8.data.toList
theorem Tryf.opPlain60 (name : String) (a : Addr) (s : ByteArray) (w : World) (hc : w.cell? a = some (.string s)) :
    (FmtStop.operand name true 119 false (.iface 60 (.pointer (some a)))).run Tryf.prog w = .ok (Tryf.plain60, s.data.toList) w := by
  have h1 : (typeStr 60).run Tryf.prog w = .ok "*errors.errorString" w := by kernel_rfl
  have d2 : Tryf.t60.desc = .pointer 62 := rfl
  have d3 : Tryf.t62.desc = .named "errors.errorString" 61 := rfl
  simp [FmtStop.operand, h1, d2, d3, run_load, hc, Tryf.plain60]
attribute [local go_sem] Tryf.call26 Tryf.guard Tryf.ptr60 Tryf.elem60 Tryf.ptr59 Tryf.elem59 Tryf.isError60 Tryf.fmtA Tryf.fmtC Tryf.fmtD Tryf.op3 Tryf.op22

/-- nil, or a new error whose text lies in memory. -/
def ErrIs (w : World) (ok : Bool) (e : Ending) (w' : World) : Prop :=
  Below w.heap.size w w' ∧ ((ok = true ∧ e = .returned .nilIface) ∨ (ok = false ∧ ∃ a s, e = .returned (.iface 60 (.pointer (some a))) ∧ w'.cell? a = some (.string s)))

theorem ErrIs.yes {w w' : World} (h : Below w.heap.size w w') : ErrIs w true (.returned .nilIface) w' := ⟨h, .inl ⟨rfl, rfl⟩⟩
theorem ErrIs.no {w w' : World} {a : Addr} {s : ByteArray} (h : Below w.heap.size w w') (hc : w'.cell? a = some (.string s)) : ErrIs w false (.returned (.iface 60 (.pointer (some a)))) w' := ⟨h, .inr ⟨rfl, a, s, rfl, hc⟩⟩
theorem ErrIs.from {w w1 w' : World} {ok : Bool} {e : Ending} (hb : Below w.heap.size w w1) (h : ErrIs w1 ok e w') : ErrIs w ok e w' := ⟨hb.trans (h.1.mono hb.size), h.2⟩

set_option maxHeartbeats 400000 in
theorem share_ok (w : World) (b : Nat) (h : shareB b = true) : Calls Tryf.prog 24 #[.float .f64 b] w (ErrIs w true) := by
  have h1 : (FloatKind.f64.format.order b 0 == some .gt) = true := by unfold shareB at h; simp only [Bool.and_eq_true] at h; exact h.1
  have h2 : (FloatKind.f64.format.order b 4607182418800017408 == some .lt || FloatKind.f64.format.order b 4607182418800017408 == some .eq) = true := by unfold shareB at h; simp only [Bool.and_eq_true] at h; exact h.2
  clear h
  go_enter Tryf.func24, Tryf.ntmps24
  go_wp2
  go_ret
  exact ErrIs.yes (Below.refl _ _)

set_option maxHeartbeats 400000 in
theorem share_bad (F : Interp) (w : World) (hF : F.answers w.tape) (b : Nat) (h : shareB b = false) : Calls Tryf.prog 24 #[.float .f64 b] w (ErrIs w false) := by
  have hF' := answers_open hF
  by_cases h1 : (FloatKind.f64.format.order b 0 == some .gt) = true
  · have h2 : (FloatKind.f64.format.order b 4607182418800017408 == some .lt || FloatKind.f64.format.order b 4607182418800017408 == some .eq) = false := by unfold shareB at h; rw [h1, Bool.true_and] at h; exact h
    clear h
    go_enter Tryf.func24, Tryf.ntmps24
    go_wp2
    go_ret
    exact ErrIs.no (((Below.refl _ w).alloc (Nat.le_refl _) _).alloc (by simp) _).drew (by simp; rfl)
  · have h1 : (FloatKind.f64.format.order b 0 == some .gt) = false := by simpa using h1
    clear h
    go_enter Tryf.func24, Tryf.ntmps24
    go_wp2
    go_ret
    exact ErrIs.no (((Below.refl _ w).alloc (Nat.le_refl _) _).alloc (by simp) _).drew (by simp; rfl)

theorem share_any (F : Interp) (w : World) (hF : F.answers w.tape) (b : Nat) : Calls Tryf.prog 24 #[.float .f64 b] w (ErrIs w (shareB b)) := by
  cases h : shareB b
  · exact share_bad F w hF b h
  · exact share_ok w b h

set_option maxHeartbeats 400000 in
theorem unit_any (w : World) (b : Nat) : Calls Tryf.prog 15 #[.float .f64 b] w fun e w' => e = .returned (.bool (shareB b)) ∧ w' = w := by
  by_cases hn : (FloatKind.f64.format.order b b != some .eq) = true
  · have hs : shareB b = false := by unfold shareB; rw [order_nan b hn, Bool.false_and]
    rw [hs]
    clear hs
    go_enter Tryf.func15, Tryf.ntmps15
    go_wp2
    go_ret
    exact ⟨rfl, rfl⟩
  · have hn : (FloatKind.f64.format.order b b != some .eq) = false := by simpa using hn
    by_cases h1 : (FloatKind.f64.format.order b 0 == some .gt) = true
    · have hs : shareB b = (FloatKind.f64.format.order b 4607182418800017408 == some .lt || FloatKind.f64.format.order b 4607182418800017408 == some .eq) := by unfold shareB; rw [h1, Bool.true_and]
      have h2 : (FloatKind.f64.format.order 0 b == some .lt) = true := by rw [order_swap, h1]
      rw [hs]
      clear hs h1
      go_enter Tryf.func15, Tryf.ntmps15
      go_wp2
      go_ret
      exact ⟨rfl, rfl⟩
    · have h1 : (FloatKind.f64.format.order b 0 == some .gt) = false := by simpa using h1
      have hs : shareB b = false := by unfold shareB; rw [h1, Bool.false_and]
      have h2 : (FloatKind.f64.format.order 0 b == some .lt) = false := by rw [order_swap, h1]
      rw [hs]
      clear hs h1
      go_enter Tryf.func15, Tryf.ntmps15
      go_wp2
      go_ret
      exact ⟨rfl, rfl⟩

end Go.Proofs.Qxb6619576aFmt
