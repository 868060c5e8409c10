/-
  Statements 4 and 5: function 8, ZZMakeGraph; function 20, growSizeOK.
-/
import Derived.Test.Qxb6619590aGrNum
namespace Go.Proofs.Qxb6619590a
open Go.RowKit Go.Deep Go.Maps

/-- What ZZMakeGraph hands back. -/
def MadeIs (w : World) (v0 v1 v2 v3 f0 f1 s0 s1 : Value) (e : Ending) (w' : World) : Prop :=
  ∃ bg, e = .returned (.pointer (some ⟨bg, 0, none⟩)) ∧ Below w.heap.size w w' ∧ bg < w'.heap.size ∧ w'.cell? ⟨bg, 0, none⟩ = some v0 ∧ w'.cell? ⟨bg, 1, none⟩ = some v1 ∧ w'.cell? ⟨bg, 2, none⟩ = some v2 ∧ w'.cell? ⟨bg, 3, none⟩ = some v3 ∧
    w'.cell? ⟨bg, 4, none⟩ = some f0 ∧ w'.cell? ⟨bg, 5, none⟩ = some f1 ∧ w'.cell? ⟨bg, 6, none⟩ = some s0 ∧ w'.cell? ⟨bg, 7, none⟩ = some s1

set_option maxHeartbeats 1000000 in
theorem make_any (w : World) (aN aD aF0 aF1 aS0 aS1 : Option Addr) (lN cN lD cD lF0 cF0 lF1 cF1 lS0 cS0 lS1 cS1 : Nat) (mn : Int) (m : Option Nat) :
    Calls Try.prog 8 #[.slice aN lN cN, .int .i32 mn, .slice aD lD cD, .map m, .agg #[.slice aF0 lF0 cF0, .slice aF1 lF1 cF1], .agg #[.slice aS0 lS0 cS0, .slice aS1 lS1 cS1]] w
      (MadeIs w (.slice aN lN cN) (.int .i32 mn) (.slice aD lD cD) (.map m) (.slice aF0 lF0 cF0) (.slice aF1 lF1 cF1) (.slice aS0 lS0 cS0) (.slice aS1 lS1 cS1)) := by
  go_enter Try.func8, Try.ntmps8
  go_wp2_with fail
  go_ret
  exact ⟨w.heap.size + 1 + 1, rfl, (((Below.refl _ w).alloc (Nat.le_refl _) _).alloc (by simp) _).alloc (by simp; omega) _, by simp, by go_simp, by go_simp, by go_simp, by go_simp, by go_simp, by go_simp, by go_simp, by go_simp⟩

def Sizes (lN lD ml lF0 lF1 lS0 lS1 : Nat) : Prop := lN ≤ 262144 ∧ lD ≤ 262144 ∧ ml ≤ 131072 ∧ lF0 ≤ 262144 ∧ lF1 ≤ 262144 ∧ lS0 ≤ 262144 ∧ lS1 ≤ 262144

def SizeIs (w : World) (P : Prop) (e : Ending) (w' : World) : Prop := (∃ b, e = .returned (.bool b) ∧ (b = true → P)) ∧ Below w.heap.size w w'

set_option maxHeartbeats 2000000 in
theorem size_any (w : World) (aN aD aF0 aF1 aS0 aS1 : Option Addr) (lN cN lD cD lF0 cF0 lF1 cF1 lS0 cS0 lS1 cS1 ml : Nat) (m : Value)
    (hb : lN ≤ 9223372036854775807 ∧ lD ≤ 9223372036854775807 ∧ ml ≤ 9223372036854775807 ∧ lF0 ≤ 9223372036854775807 ∧ lF1 ≤ 9223372036854775807 ∧ lS0 ≤ 9223372036854775807 ∧ lS1 ≤ 9223372036854775807)
    (hlen : Hid (∀ W, Below w.heap.size w W → (Builtin.len_ #[41] 3 #[m]).run Try.prog W = .ok (.int .i64 ml) W)) :
    Calls Try.prog 20 #[.slice aN lN cN, .slice aD lD cD, m, .agg #[.slice aF0 lF0 cF0, .slice aF1 lF1 cF1], .agg #[.slice aS0 lS0 cS0, .slice aS1 lS1 cS1]] w
      (SizeIs w (Sizes lN lD ml lF0 lF1 lS0 lS1)) := by
  have hB : Below w.heap.size w ((w.alloc (.cells #[.slice aF0 lF0 cF0, .slice aF1 lF1 cF1] 30)).alloc (.cells #[.slice aS0 lS0 cS0, .slice aS1 lS1 cS1] 30)) := ((Below.refl _ w).alloc (Nat.le_refl _) _).alloc (by simp) _
  have hl := hlen.out _ hB
  have hno : SizeIs w (Sizes lN lD ml lF0 lF1 lS0 lS1) (.returned (.bool false)) ((w.alloc (.cells #[.slice aF0 lF0 cF0, .slice aF1 lF1 cF1] 30)).alloc (.cells #[.slice aS0 lS0 cS0, .slice aS1 lS1 cS1] 30)) := ⟨⟨false, rfl, fun h => by cases h⟩, hB⟩
  obtain ⟨b1, b2, b3, b4, b5, b6, b7⟩ := hb
  by_cases h : Sizes lN lD ml lF0 lF1 lS0 lS1
  · have hyes : ∀ b, SizeIs w (Sizes lN lD ml lF0 lF1 lS0 lS1) (.returned (.bool b)) ((w.alloc (.cells #[.slice aF0 lF0 cF0, .slice aF1 lF1 cF1] 30)).alloc (.cells #[.slice aS0 lS0 cS0, .slice aS1 lS1 cS1] 30)) := fun b => ⟨⟨b, rfl, fun _ => h⟩, hB⟩
    obtain ⟨h1, h2, h3, h4, h5, h6, h7⟩ := h
    go_enter Try.func20, Try.ntmps20
    go_wp2_with fail
    go_ret
    exact hyes _
  · unfold Sizes at h
    go_enter Try.func20, Try.ntmps20
    go_wp2_with fail
    all_goals first
      | (go_ret; exact hno)
      | (exfalso; omega)

end Go.Proofs.Qxb6619590a
