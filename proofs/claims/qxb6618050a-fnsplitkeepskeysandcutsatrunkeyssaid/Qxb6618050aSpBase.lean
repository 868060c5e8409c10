/-
  Statement 1 (FnSplitKeepsKeysAndCutsAtRunKeys): how a slice of slices lies in memory.
-/
import Derived.Test.Qxb6618050aRows
import Derived.WalkKit
import Derived.WalkSpells
import Derived.WalkLawsBesides
import Derived.Deep.OwnRows
import Derived.Deep.LoopGhost
namespace Go.Proofs.Qxb6618050a
open Go.RowKit Go.Deep

/-- A slice of n rows at 'ao'; row j is '.slice (A j) (L j) (C j)', its element k the value 'V j k'; all of it below block B. -/
structure Grid (w : World) (B : Nat) (ao : Option Addr) (n : Nat) (A : Nat → Option Addr) (L C : Nat → Nat) (V : Nat → Nat → Value) : Prop where
  row : ∀ j, j < n → ∃ b o, ao = some ⟨b, o, none⟩ ∧ b < B ∧ w.cell? ⟨b, o + j, none⟩ = some (.slice (A j) (L j) (C j))
  elt : ∀ j, j < n → ∀ k, k < L j → ∃ b o, A j = some ⟨b, o, none⟩ ∧ b < B ∧ w.cell? ⟨b, o + k, none⟩ = some (V j k)
  nil : ∀ j, j < n → A j = none → L j = 0 ∧ C j = 0
  len : ∀ j, j < n → L j ≤ 9223372036854775807

theorem Grid.below {w w' : World} {B : Nat} {ao : Option Addr} {n : Nat} {A : Nat → Option Addr} {L C : Nat → Nat} {V : Nat → Nat → Value} (h : Grid w B ao n A L C V) (hb : Below B w w') : Grid w' B ao n A L C V :=
  ⟨fun j hj => by
    obtain ⟨b, o, e, hlt, hc⟩ := h.row j hj
    exact ⟨b, o, e, hlt, by rw [hb.cell (p := ⟨b, o + j, none⟩) hlt]; exact hc⟩,
   fun j hj k hk => by
    obtain ⟨b, o, e, hlt, hc⟩ := h.elt j hj k hk
    exact ⟨b, o, e, hlt, by rw [hb.cell (p := ⟨b, o + k, none⟩) hlt]; exact hc⟩, h.nil, h.len⟩

theorem Grid.mono {w : World} {B B' : Nat} {ao : Option Addr} {n : Nat} {A : Nat → Option Addr} {L C : Nat → Nat} {V : Nat → Nat → Value} (h : Grid w B ao n A L C V) (hb : B ≤ B') : Grid w B' ao n A L C V :=
  ⟨fun j hj => by
    obtain ⟨b, o, e, hlt, hc⟩ := h.row j hj
    exact ⟨b, o, e, by omega, hc⟩,
   fun j hj k hk => by
    obtain ⟨b, o, e, hlt, hc⟩ := h.elt j hj k hk
    exact ⟨b, o, e, by omega, hc⟩, h.nil, h.len⟩

end Go.Proofs.Qxb6618050a
