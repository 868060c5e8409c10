/-
  Statement 1: the six copies and what ZZSplit makes of the last three (no walk).
-/
import Derived.Test.Qxb6618050aSpOut
namespace Go.Proofs.Qxb6618050a
open Go.RowKit Go.Deep

variable {w w1 w2 w3 w4 w5 w6 : World} {T E : TypeId} {n i : Nat} {A AK AE AB : Nat → Option Addr} {L LK LE LB CK CE CB : Nat → Nat} {V : Nat → Nat → Value} {S : Nat → Nat → ByteArray} {ZE ZB : Nat → Nat → Int}

theorem cloneA_inv {N j b o : Nat} (h : cloneA A N j = some ⟨b, o, none⟩) : (A j).isSome = true ∧ b = N + 1 + cnt A j ∧ o = 0 := by
  unfold cloneA at h
  split at h
  · simp at h
    exact ⟨by assumption, h.1.symm, h.2.symm⟩
  · cases h

/-- The copy's own row of rows. -/
theorem Outer.rows (h : Outer w w1 T E n A L V n) : w1.rowIs w.heap.size T n (fun j => .slice (cloneA A w.heap.size j) (L j) (L j)) :=
  h.top.congr (fun j hj => by simp only [Qxb6618050a.top]; rw [if_pos hj])

/-- The first copies, as they lie in a later world. -/
theorem Outer.later {ao : Option Addr} {C : Nat → Nat} {w0 wx : World} {B B' : Nat} (h : Outer w w1 T E n A L V n) (hg : Grid w0 B ao n A L C V) (hb : Below B' w1 wx) (hB : w1.heap.size ≤ B') : Grid wx B' (some ⟨w.heap.size, 0, none⟩) n (cloneA A w.heap.size) L L V :=
  ((h.grid hg).mono hB).below hb

/-- WHERE ALL THINGS LIE BEHIND ZZSplit. -/
structure Seven (w w3 w7 : World) (n i : Nat) (aK aE aB : Nat) (LK LE LB : Nat → Nat) (S : Nat → Nat → ByteArray) (ZE ZB : Nat → Nat → Int) (M : Nat) : Prop where
  below : Below w.heap.size w w7
  keys : ∃ A, Grid w7 w7.heap.size (some ⟨aK, 0, none⟩) n A LK LK (fun j k => .string (S j k))
  encs : ∃ A, Grid w7 w7.heap.size (some ⟨aE, 0, none⟩) n A LE LE (fun j k => .int .u8 (ZE j k))
  befs : ∃ A, Grid w7 w7.heap.size (some ⟨aB, 0, none⟩) n A LB LB (fun j k => .int .u8 (ZB j k))
  outK : ∃ A C, Grid w7 w7.heap.size (some ⟨M, 0, none⟩) (n + 1) A (cutL i LK) C (fun j k => .string (cutS i S j k))
  outE : ∃ A, Grid w7 w7.heap.size (some ⟨M + 1, 0, none⟩) (n + 1) A (sh i LE 0) (sh i LE 0) (sh i (fun j k => .int .u8 (ZE j k)) (fun _ => undef))
  outB : ∃ A, Grid w7 w7.heap.size (some ⟨M + 2, 0, none⟩) (n + 1) A (sh i LB 0) (sh i LB 0) (sh i (fun j k => .int .u8 (ZB j k)) (fun _ => undef))

theorem seven {w7 : World} {aK aE aB : Option Addr} {M cu : Nat} {au : Option Addr} (hgK : Grid w w.heap.size aK n AK LK CK (fun j k => .string (S j k))) (hgE : Grid w w.heap.size aE n AE LE CE (fun j k => .int .u8 (ZE j k))) (hgB : Grid w w.heap.size aB n AB LB CB (fun j k => .int .u8 (ZB j k)))
    (hi : i < n) (hl : 128 ≤ LK i)
    (h1 : Outer w w1 26 9 n AK LK (fun j k => .string (S j k)) n) (h2 : Outer w1 w2 36 5 n AE LE (fun j k => .int .u8 (ZE j k)) n) (h3 : Outer w2 w3 36 5 n AB LB (fun j k => .int .u8 (ZB j k)) n)
    (h4 : Outer w3 w4 26 9 n (cloneA AK w.heap.size) LK (fun j k => .string (S j k)) n) (h5 : Outer w4 w5 36 5 n (cloneA AE w1.heap.size) LE (fun j k => .int .u8 (ZE j k)) n) (h6 : Outer w5 w6 36 5 n (cloneA AB w2.heap.size) LB (fun j k => .int .u8 (ZB j k)) n)
    (hz : ZZPost w6 w7 n i (w3.heap.size + 1 + cnt (cloneA AK w.heap.size) i) (LK i) (runCell (fun j => .slice (cloneA (cloneA AK w.heap.size) w3.heap.size j) (LK j) (LK j)) (fun j => .slice (cloneA (cloneA AE w1.heap.size) w4.heap.size j) (LE j) (LE j)) (fun j => .slice (cloneA (cloneA AB w2.heap.size) w5.heap.size j) (LB j) (LB j))) (S i) M au cu)
    (hAi : (cloneA AK w.heap.size i).isSome = true) :
    Seven w w3 w7 n i w.heap.size w1.heap.size w2.heap.size LK LE LB S ZE ZB M := by
  have s1 := h1.size
  have s2 := h2.size
  have s3 := h3.size
  have s4 := h4.size
  have s5 := h5.size
  have s6 := h6.size
  have s7 := hz.size
  have c1 := cnt_lt (A := cloneA AK w.heap.size) hi hAi
  have b7 : Below w3.heap.size w6 w7 := ⟨hz.os, hz.tape, hz.output, hz.size, fun b hb => hz.same b (by omega) (by omega)⟩
  have b36 : Below w3.heap.size w3 w6 := (h4.since.trans (h5.since.mono (by omega))).trans (h6.since.mono (by omega))
  have b37 : Below w3.heap.size w3 w7 := b36.trans b7
  have b13 : Below w1.heap.size w1 w3 := h2.since.trans (h3.since.mono (by omega))
  have b23 : Below w2.heap.size w2 w3 := h3.since
  have gK3 := h1.later hgK b13 (Nat.le_refl _)
  have hgE1 : Grid w1 w.heap.size aE n AE LE CE (fun j k => .int .u8 (ZE j k)) := hgE.below h1.since
  have hgB2 : Grid w2 w.heap.size aB n AB LB CB (fun j k => .int .u8 (ZB j k)) := (hgB.below h1.since).below (h2.since.mono (by omega))
  have gE3 := h2.later hgE1 b23 (Nat.le_refl _)
  have gB3 := h3.later hgB2 (Below.refl w3.heap.size w3) (Nat.le_refl _)
  have gK7 := ((gK3.mono (show w1.heap.size ≤ w3.heap.size by omega)).below b37).mono (show w3.heap.size ≤ w7.heap.size by omega)
  have gE7 := ((gE3.mono (show w2.heap.size ≤ w3.heap.size by omega)).below b37).mono (show w3.heap.size ≤ w7.heap.size by omega)
  have gB7 := (gB3.below b37).mono (show w3.heap.size ≤ w7.heap.size by omega)
  have b46 : Below w4.heap.size w4 w6 := h5.since.trans (h6.since.mono (by omega))
  have gK6 := h4.later gK3 b46 (Nat.le_refl _)
  have gE6 := h5.later gE3 h6.since (Nat.le_refl _)
  have gB6 := h6.later gB3 (Below.refl w6.heap.size w6) (Nat.le_refl _)
  have oK := out_keys hi gK6 (by omega) (fun j hj hji b o e => by
    obtain ⟨e1, e2, _⟩ := cloneA_inv e
    rcases Nat.lt_or_gt_of_ne hji with h | h
    · have := cnt_lt (A := cloneA AK w.heap.size) h e1
      omega
    · have := cnt_lt (A := cloneA AK w.heap.size) h hAi
      omega) (cloneA_some hAi) (by omega) hl hz (fun j => fin_k j)
  have hrE := hz.e.congr (fun j _ => fin_e (i := i) j)
  have hrB := hz.b.congr (fun j _ => fin_b (i := i) j)
  have oE := out_bytes hi gE6 (by omega) (fun j hj b o e => by
    obtain ⟨e1, e2, _⟩ := cloneA_inv e
    omega) hz.same hz.size hrE rfl
  have oB := out_bytes hi gB6 (by omega) (fun j hj b o e => by
    obtain ⟨e1, e2, _⟩ := cloneA_inv e
    omega) hz.same hz.size hrB rfl
  obtain ⟨C, oK⟩ := oK
  exact ⟨(((h1.since.trans (h2.since.mono (by omega))).trans (h3.since.mono (by omega))).trans (b37.mono (by omega))), ⟨_, gK7⟩, ⟨_, gE7⟩, ⟨_, gB7⟩, ⟨_, C, oK⟩, ⟨_, oE⟩, ⟨_, oB⟩⟩

/-- What is owned, read as elements in a later world. -/
theorem owned_elts {w wx : World} {base : Nat} {e : TypeId} {v : Value} {α : Type} {f : α → Value} {d : α} {xs : List α} (h : w.ownsRow base e 1 v xs.length (xs.map f)) (hb : Below w.heap.size w wx) :
    ∃ ao cap, v = .slice ao xs.length cap ∧ Elts wx ao xs.length (fun k => f (xs.getD k d)) := by
  obtain ⟨ao, cap, hv, _, hel, _⟩ := owned_shape h
  refine ⟨ao, cap, hv, fun k hk => ?_⟩
  obtain ⟨b, e, _, hlt, hc⟩ := hel k (f (xs.getD k d)) (by simp [hk])
  exact ⟨b, 0, e, by rw [Nat.zero_add, hb.cell (p := ⟨b, k, none⟩) hlt]; exact hc⟩

/-- A grid's row, read as elements. -/
theorem Grid.elts {w wx : World} {B : Nat} {ao : Option Addr} {n : Nat} {A : Nat → Option Addr} {L C : Nat → Nat} {V : Nat → Nat → Value} (h : Grid w B ao n A L C V) (hb : Below B w wx) {j : Nat} (hj : j < n) : Elts wx (A j) (L j) (V j) := by
  intro k hk
  obtain ⟨b, o, e, hlt, hc⟩ := h.elt j hj k hk
  exact ⟨b, o, e, by rw [hb.cell (p := ⟨b, o + k, none⟩) hlt]; exact hc⟩

/-- A grid's row, as a cell in a later world. -/
theorem Grid.cell {w wx : World} {B g : Nat} {n : Nat} {A : Nat → Option Addr} {L C : Nat → Nat} {V : Nat → Nat → Value} (h : Grid w B (some ⟨g, 0, none⟩) n A L C V) (hb : Below B w wx) {j : Nat} (hj : j < n) : wx.cell? ⟨g, j, none⟩ = some (.slice (A j) (L j) (C j)) := by
  obtain ⟨b, o, e, hlt, hc⟩ := h.row j hj
  simp at e
  obtain ⟨rfl, rfl⟩ := e
  rw [hb.cell (p := ⟨g, j, none⟩) hlt]
  simpa using hc

end Go.Proofs.Qxb6618050a
