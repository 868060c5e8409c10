/-
  Statements 4 and 5: function 34, the closure of (*reach).grow.
-/
import Derived.Test.Qxb6619590aGrVis
import Derived.Deep.RegionHeld3
import Derived.Deep.RegionLaw
namespace Go.Proofs.Qxb6619590a
open Go.RowKit Go.Deep Go.Maps

def add1 (rn : List Nat) (v : Nat) : List Nat := if v ∈ rn then rn else rn ++ [v]
/-- The nodes found when the first i steps from k are followed. -/
def visN (g : GA) (k : Nat) (rn : List Nat) : Nat → List Nat
  | 0 => rn
  | i + 1 => add1 (visN g k rn i) (g.ST (g.FR k + i))
def deg (g : GA) (k : Nat) : Nat := g.FR (k + 1) - g.FR k
def vis (g : GA) (k : Nat) (rn : List Nat) : List Nat := visN g k rn (deg g k)

theorem Try.info21 : (Try.prog.info? 21).map (fun i => (i.zero, i.size, i.bytes)) = some (some (.int .i32 0), 1, 4) := by kernel_rfl

theorem info21 : ∃ i, Try.prog.info? 21 = some i ∧ i.zero = some (.int .i32 0) ∧ i.size = 1 ∧ i.bytes = 4 := by
  have := Try.info21
  cases h : Try.prog.info? 21 with
  | none => simp [h] at this
  | some i =>
    simp [h] at this
    exact ⟨i, rfl, this⟩

/-- The append of one node. -/
theorem append1 (w : World) (o : Nat) (q : Nat) {base : Nat} {vn : Value} {n : Nat} {xs : List Value} (x : Int) (ho : w.ownsRow base 21 1 vn n xs) (hn : n ≤ 1048576) (hb : base ≤ w.heap.size) (hH : o = w.heap.size) :
    ∃ gb cap w3, (Builtin.append_ #[22, 22] 22 #[vn, .slice (some ⟨o, 0, none⟩) 1 1]).run Try.prog ((w.drewN q).alloc (.cells #[.int .i32 x] 21)) = .ok (.slice (some ⟨gb, 0, none⟩) (n + 1) cap) w3 ∧
      w3.ownsRow base 21 1 (.slice (some ⟨gb, 0, none⟩) (n + 1) cap) (n + 1) (xs ++ [.int .i32 x]) ∧ ((w.drewN q).alloc (.cells #[.int .i32 x] 21)).grownBy w3 vn.ownBlock := by
  obtain ⟨i, hi, hz, hs, hby⟩ := info21
  subst hH
  have hown : ((w.drewN q).alloc (.cells #[.int .i32 x] 21)).ownsRow base 21 1 vn n xs := World.ownsRow.alloc (w := w.drewN q) ho _
  obtain ⟨gb, cap, w3, h1, h2, h3, _⟩ := run_append_lies ((w.drewN q).alloc (.cells #[.int .i32 x] 21)) 22 22 base 21 i (.int .i32 0) 1 4 Try.underlying22 hi hz hs hby rfl (by decide) vn n xs hown ⟨w.heap.size, 0, none⟩ 1 1 [.int .i32 x] rfl
    (fun j u hu => World.news_of_block (cs := #[.int .i32 x]) (t := 21) (fr := (0, 0)) (blk_alloc_new (w.drewN q) (.cells #[.int .i32 x] 21)) j u hu) (by simp [Value.oneCell']) (by decide) (by unfold maxLen; omega) (by omega) (by rw [nblk_alloc]; show base ≤ w.heap.size + 1; omega) _ rfl
  exact ⟨gb, cap, w3, h1, h2, h3⟩

/-- A reach, some values; the boxes. -/
def VS (w : World) (g : GA) (br b : Nat) (rn : List Nat) (S : Nat → Bool) (wk fol : Nat) : Prop := (∃ vn few many, RS w g br rn S wk vn few many) ∧ Bx w g br b fol

theorem VS.drewN {w : World} {g : GA} {br b : Nat} {rn : List Nat} {S : Nat → Bool} {wk fol : Nat} (h : VS w g br b rn S wk fol) (q : Nat) : VS (w.drewN q) g br b rn S wk fol := by
  obtain ⟨⟨vn, few, many, h1⟩, h2⟩ := h
  exact ⟨⟨vn, few, many, h1.row, h1.own, h1.set.drewN q, h1.len, h1.lt⟩, h2.xr, h2.xg, h2.xd, h2.xf⟩

theorem RS.drewN {w : World} {g : GA} {br : Nat} {rn : List Nat} {S : Nat → Bool} {wk : Nat} {vn few many : Value} (h : RS w g br rn S wk vn few many) (q : Nat) : RS (w.drewN q) g br rn S wk vn few many :=
  ⟨h.row, h.own, h.set.drewN q, h.len, h.lt⟩
theorem Bx.drewN {w : World} {g : GA} {br b fol : Nat} (h : Bx w g br b fol) (q : Nat) : Bx (w.drewN q) g br b fol := ⟨h.xr, h.xg, h.xd, h.xf⟩

theorem own_setOther {w : World} {base : Nat} {v : Value} {n : Nat} {xs : List Value} (h : w.ownsRow base 21 1 v n xs) {b t m : Nat} {f : Nat → Value} (hr : w.rowIs b t m f) (ht : t ≠ 21) (i : Nat) (u : Value) : (w.setCell ⟨b, i, none⟩ u).ownsRow base 21 1 v n xs := by
  have hk' : w.grownBy (w.setCell ⟨b, i, none⟩ u) (some b) := ⟨rfl, rfl, rfl, Nat.le_of_eq (nblk_setCell _ _ _).symm, fun x _ hx => blk_setCell_other _ _ _ _ (fun e => hx (by rw [e]))⟩
  refine h.kept hk' (.inr (fun e => ?_))
  obtain ⟨cs, h1⟩ := own_block h e
  obtain ⟨c, h2, _⟩ := hr
  rw [h2] at h1
  simp only [Option.some.injEq, Obj.cells.injEq] at h1
  exact ht h1.2.1

theorem vs_fol {w : World} {g : GA} {br b : Nat} {rn : List Nat} {S : Nat → Bool} {wk fol : Nat} {vn few many : Value} (h : RS w g br rn S wk vn few many) (hX : Bx w g br b fol) (q d : Nat) :
    VS ((w.drewN q).setCell ⟨b + 3, 0, none⟩ (.int .i64 ((fol : Int) + (d : Int)))) g br b rn S wk (fol + d) := by
  have h0 := h.drewN q
  have hx := hX.drewN q
  refine ⟨⟨vn, few, many, h0.row.setOther (a := ⟨b + 3, 0, none⟩) (row_ne h0.row hx.xf (by decide)) _, own_setOther h0.own hx.xf (by decide) _ _, h0.set.setRow hx.xf (by decide) _ _, h0.len, h0.lt⟩,
    hx.xr.setOther (a := ⟨b + 3, 0, none⟩) (by show b ≠ b + 3; omega) _, hx.xg.setOther (a := ⟨b + 3, 0, none⟩) (by show b + 1 ≠ b + 3; omega) _, hx.xd.setOther (a := ⟨b + 3, 0, none⟩) (by show b + 2 ≠ b + 3; omega) _, (hx.xf.set 0 _).congr (fun j hj => ?_)⟩
  obtain rfl : j = 0 := by omega
  simp

theorem visN_lt {g : GA} (hg : g.Ok) {k : Nat} (hk : k < g.n) {i : Nat} (hi : i < deg g k) : g.ST (g.FR k + i) < g.n := by
  have hd1 : g.FR (k + 1) ≤ g.ls := Nat.le_trans (hg.le (k + 1) g.n (by omega) (Nat.le_refl _)) hg.top
  unfold deg at hi
  exact hg.st _ (by omega)

attribute [-go_sem] Go.Builtin.append_

set_option maxRecDepth 100000 in
set_option maxHeartbeats 2000000 in
theorem visit_any (w : World) (g : GA) (br b : Nat) (rn : List Nat) (S : Nat → Bool) (wk fol : Nat) (k : Nat) (hk : k < g.n) (hg : g.Ok) (hG : Gph w (· < br) g) (hbb : br ≤ b) (hV : VS w g br b rn S wk fol) (hfol : fol ≤ 1000000000000) :
    Calls Try.prog 34 #[.int .i32 (k : Int), .pointer (some ⟨b + 1, 0, none⟩), .pointer (some ⟨b + 2, 0, none⟩), .pointer (some ⟨b + 3, 0, none⟩), .pointer (some ⟨b, 0, none⟩)] w
      fun e w' => e = .returned (.tuple #[]) ∧ Below br w w' ∧ VS w' g br b (vis g k rn) S wk (fol + deg g k) := by
  obtain ⟨⟨vn, few, many, hR⟩, hX⟩ := hV
  have x1 : w.cell? ⟨b + 1, 0, none⟩ = some (.pointer (some ⟨g.bg, 0, none⟩)) := hX.xg.cell (by decide)
  have x2 : w.cell? ⟨b + 2, 0, none⟩ = some (.int .i64 (g.d : Int)) := hX.xd.cell (by decide)
  have x3 : w.cell? ⟨b + 3, 0, none⟩ = some (.int .i64 (fol : Int)) := hX.xf.cell (by decide)
  have x3' : w.frozen? ⟨b + 3, 0, none⟩ = false := hX.xf.frozen 0
  have hn := hg.n1
  have hls := hg.ls1
  have hd1 : g.FR (k + 1) ≤ g.ls := Nat.le_trans (hg.le (k + 1) g.n (by omega) (Nat.le_refl _)) hg.top
  have hd2 : deg g k ≤ 262144 := by unfold deg; omega
  have hw := wrap_in ((fol : Int) + ((deg g k : Nat) : Int)) (by omega) (by omega)
  obtain ⟨dg, hdg⟩ : ∃ dg, dg = deg g k := ⟨_, rfl⟩
  have hdg' : g.FR (k + 1) - g.FR k = dg := hdg.symm
  have hst : ∀ i, i < dg → g.ST (g.FR k + i) < g.n := fun i hi => visN_lt hg hk (by omega)
  have hvis : vis g k rn = visN g k rn dg := by rw [hdg]; rfl
  rw [hvis]
  have HV0 := fun q => vs_fol hR hX q dg
  rw [← hdg] at hd2 hw ⊢
  clear hvis hdg
  go_enter Try.func34, Try.ntmps34
  go_wp2_with fail
  refine Calls.mono (step_any w (· < br) g hG hg k hk) ?_
  rintro e w1 ⟨a, q, rfl, rfl, hI⟩
  have HV := HV0 q
  have HB : Below br w ((w.drewN q).setCell ⟨b + 3, 0, none⟩ (.int .i64 ((fol : Int) + (dg : Int)))) := (Kept.of_below (Below.refl br w) |>.drewN q |>.below).setCell (by show br ≤ b + 3; omega) _
  rw [hdg'] at hI ⊢
  clear hR hX hdg' HV0
  go_wp2_with fail
  clear x1 x2 x3 x3' hw
  go_loopg [8, 19] dg (fun gh _ t wr => ∃ i : Nat, i ≤ dg ∧ gh = dg - i ∧ t = .int .i64 i ∧ Below br w wr ∧ VS wr g br b (visN g k rn i) S wk (fol + dg))
  case atStart => exact ⟨0, Nat.zero_le _, rfl, rfl, HB, HV⟩
  case round =>
    obtain ⟨i, hi, rfl, rfl, hb, hv⟩ := hrel
    clear HB HV
    by_cases hlt : i < dg
    · obtain ⟨ba, oa, rfl, hba, hca⟩ := hI i hlt
      have hca' : wr.cell? ⟨ba, oa + i, none⟩ = some (.int .i32 (g.ST (g.FR k + i) : Int)) := by rw [hb.cell (p := ⟨ba, oa + i, none⟩) hba]; exact hca
      have hws := hst i hlt
      have hnext : visN g k rn (i + 1) = add1 (visN g k rn i) (g.ST (g.FR k + i)) := rfl
      have hil : (i : Int) < dg := by omega
      generalize g.ST (g.FR k + i) = v at hca' hws hnext
      generalize visN g k rn i = rv at hv hnext
      obtain ⟨⟨vn, few, many, hR⟩, hX⟩ := hv
      have y0 : wr.cell? ⟨b, 0, none⟩ = some (.pointer (some ⟨br, 0, none⟩)) := hX.xr.cell (by decide)
      have y1 : wr.cell? ⟨b + 1, 0, none⟩ = some (.pointer (some ⟨g.bg, 0, none⟩)) := hX.xg.cell (by decide)
      have z0 : wr.cell? ⟨br, 0, none⟩ = some vn := hR.row.cell (by decide)
      have z1 : wr.cell? ⟨br, 1, none⟩ = some few := hR.row.cell (by decide)
      have z2 : wr.cell? ⟨br, 2, none⟩ = some many := hR.row.cell (by decide)
      have hh1 := holds_any wr hR.set (by omega) hws br z1 z2
      have hVnow : VS wr g br b rv S wk (fol + dg) := ⟨⟨vn, few, many, hR⟩, hX⟩
      clear hca hI
      cases hH : hh rv v with
      | true =>
        have hnx : visN g k rn (i + 1) = rv := by rw [hnext, add1, if_pos (by simpa [hh] using hH)]
        rw [hH] at hh1
        go_wp2_with fail
        refine Calls.mono hh1 ?_
        rintro e w1 ⟨rfl, rfl⟩
        go_wp2_with fail
        go_roundg (dg - (i + 1))
        case measure => omega
        case rel => exact ⟨i + 1, by omega, rfl, by go_num, hb, by rw [hnx]; exact hVnow⟩
      | false =>
        have hnot : v ∉ rv := by simpa [hh] using hH
        have hnx : visN g k rn (i + 1) = rv ++ [v] := by rw [hnext, add1, if_neg hnot]
        rw [hH] at hh1
        have hc0 : wr.cell? ⟨g.bg, 0, none⟩ = some (.slice g.aN g.n g.n) := by rw [hb.cell (p := ⟨g.bg, 0, none⟩) hG.lt]; exact hG.c0
        have hadd := fun q => add_any (wr.drewN q) br g.bg g.n (cnt (mm rv S) g.n) wk (mm rv S) (hh rv) v true vn few many g.aN hn hws (cnt_le _ _) (fun j hj => by simp only [mm]; simp only [hh] at hj; rw [hj]; rfl) hc0 hG.lt hR.row (hR.set.drewN q)
        have hbgl : g.bg < br := hG.lt
        go_wp2_with fail
        refine Calls.mono hh1 ?_
        rintro e w1 ⟨rfl, rfl⟩
        go_wp2_with fail
        go_region_with (go_at_call 27; refine Calls.mono (hadd 1) ?_; rintro e w2 ⟨rfl, hA⟩)
        all_goals
          obtain ⟨bN, oN, hNe, hNl, hNc⟩ := hG.nodes v hws
          have hA2 := hA
          obtain ⟨hbA, hlA, few', many', hrowA, -⟩ := hA2
          have hX2 := (hX.drewN 1).lies hlA
          have u0 : w2.cell? ⟨b, 0, none⟩ = some (.pointer (some ⟨br, 0, none⟩)) := hX2.xr.cell (by decide)
          have u1 : w2.cell? ⟨b + 1, 0, none⟩ = some (.pointer (some ⟨g.bg, 0, none⟩)) := hX2.xg.cell (by decide)
          have u2 : w2.cell? ⟨br, 0, none⟩ = some vn := hrowA.cell (by decide)
          have u2' : w2.frozen? ⟨br, 0, none⟩ = false := hrowA.frozen 0
          have hb2 := hb.trans ((Kept.of_below (Below.refl br w1) |>.drewN 1 |>.below).trans hbA)
          have u3 : w2.cell? ⟨g.bg, 0, none⟩ = some (.slice (some ⟨bN, oN, none⟩) g.n g.n) := by rw [hb2.cell (p := ⟨g.bg, 0, none⟩) hG.lt, ← hNe]; exact hG.c0
          have u4 : w2.cell? ⟨bN, oN + v, none⟩ = some (.int .i32 (g.vN v)) := by rw [hb2.cell (p := ⟨bN, oN + v, none⟩) hNl]; exact hNc
          have hvn : (v : Int) < g.n := by omega
          have hlen : rv.length ≤ 1048576 := by rw [hR.len]; have := cnt_le (hh rv) g.n; omega
          obtain ⟨gb, cap, w3, hrun, hown3, hg3⟩ := append1 w2 w2.heap.size 1 (g.vN v) (hlA.owns (hR.drewN 1).own (by decide) (by decide)) hlen (Nat.le_of_lt hrowA.lt) rfl
          obtain ⟨few3, many3, hR3, hX3, hB3⟩ := rs_append (hR.drewN 1) (hX.drewN 1) hws hnot hA hown3 hg3
          have how := World.ownsRow.alloc (w := w2.drewN 1) (hlA.owns (hR.drewN 1).own (by decide) (by decide)) (.cells #[.int .i32 (g.vN v)] 21)
          have t0 : w3.cell? ⟨b, 0, none⟩ = some (.pointer (some ⟨br, 0, none⟩)) := (grown_row how hg3 (World.rowIs.alloc (w := w2.drewN 1) hX2.xr _) (by decide)).cell (by decide)
          have t1r := grown_row how hg3 (World.rowIs.alloc (w := w2.drewN 1) hrowA _) (by decide)
          have t1 : w3.cell? ⟨br, 0, none⟩ = some vn := t1r.cell (by decide)
          have t1' : w3.frozen? ⟨br, 0, none⟩ = false := t1r.frozen 0
          have hB3' := hb.trans ((Kept.of_below (Below.refl br w1) |>.drewN 1 |>.below).trans hB3)
          clear how t1r
          have hlt2 := hrowA.lt
          have hl0 := hX2.xr.lt
          have hl1 := hX2.xg.lt
          have hl2 : g.bg < w2.heap.size := by omega
          have hl3 : bN < w2.heap.size := by omega
          replace hrun : (Builtin.append_ #[22, 22] 22 #[vn, .slice (some ⟨w2.heap.size, 0, none⟩) 1 1]).run Try.prog (w2.alloc (.cells #[.int .i32 (g.vN v)] 21)).drew = .ok (.slice (some ⟨gb, 0, none⟩) (rv.length + 1) cap) w3 := hrun
          clear hA hX2 hrowA hlA hbA hG hR hX hVnow hh1 hadd
          go_wp2_with fail
          go_big_region
          all_goals
            go_wp2_with fail
            go_roundg (dg - (i + 1))
            case measure => omega
            case rel => exact ⟨i + 1, by omega, rfl, by go_num, hB3', by rw [hnx]; exact ⟨⟨_, few3, many3, hR3⟩, hX3⟩⟩
    · obtain rfl : dg = i := by omega
      go_wp2_with fail
      go_end0
      exact ⟨rfl, hb, hv⟩

end Go.Proofs.Qxb6619590a
