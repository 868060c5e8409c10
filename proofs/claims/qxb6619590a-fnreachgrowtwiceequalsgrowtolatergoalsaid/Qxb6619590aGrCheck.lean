/-
  Statements 4 and 5: function 24, growIsBreadthFirst, a source on the graph.
-/
import Derived.Test.Qxb6619590aGrTab
namespace Go.Proofs.Qxb6619590a
open Go.RowKit Go.Deep Go.Maps

set_option maxRecDepth 100000 in
set_option maxHeartbeats 8000000 in
theorem check_on (w : World) (g : GA) (hg : g.Ok) (aN aF aS : Option Addr) (cN cF cS : Nat) (hN : Ints w (· < w.heap.size) aN g.n g.vN) (hF : Ints w (· < w.heap.size) aF (g.n + 1) (fun k => (g.FR k : Int))) (hS : Ints w (· < w.heap.size) aS g.ls (fun k => (g.ST k : Int)))
    (node goal : Int) (br src wk : Nat) (hon : g.on node = true) (hsrc : src = g.ix node) (hR : RA w g br (stg g src wk) (metWith (fun _ => false) src) wk) (hlive : Live g goal (stg g src) 0 wk) (hstop : (stg g src wk).length ≤ wk ∨ hit g goal (stg g src wk) = true) (fol : Int) (hfol : fol = ((deg g src + walkSum g (stg g src) wk : Nat) : Int)) :
    Calls Try.prog 24 #[.slice aN g.n cN, .slice aF (g.n + 1) cF, .slice aS g.ls cS, .int .i32 node, .int .i32 goal, .pointer (some ⟨br, 0, none⟩), .int .i64 fol] w fun e w' => e = .returned (.bool true) ∧ Below w.heap.size w w' := by
  have hn := hg.n1
  have hls := hg.ls1
  have hsn : src < g.n := by rw [hsrc]; exact (GA.ix_on hon).1
  have hwl : wk ≤ (stg g src wk).length := live_le hlive
  have hnd := stg_nodup g src wk
  obtain ⟨rn, hrn⟩ : ∃ rn, rn = stg g src wk := ⟨_, rfl⟩
  rw [← hrn] at hR hwl hnd hstop
  obtain ⟨vn, few, many, hR⟩ := hR
  have hln : rn.length ≤ g.n := by rw [hR.len]; exact cnt_le _ _
  have hmem := hR.lt
  obtain ⟨ao, cap, hvn, hcell⟩ := own_form hR.own
  have hnodes := reachNodes_any hR
  have hwalked := reachWalked_any hR
  have hset := reachSet_any w br
  have hnum := numberIn_any w g hn _ aN cN hN node
  rw [hon, ← hsrc] at hnum
  have hmkb := run_make_row' (P := Try.prog) 33 4 (.bool false) 1 Try.underlying33 Try.info4 rfl .i64 .i64 g.n (by omega) (by omega)
  have hmkr := run_make_row' (P := Try.prog) 22 21 (.int .i32 0) 4 Try.underlying22 Try.info21 rfl .i64 .i64 rn.length (by omega) (by omega)
  have HR : Hid (RS w g br rn (metWith (fun _ => false) src) wk vn few many) := hR
  subst hvn
  have Hfol : Hid (fol = ((deg g src + walkSum g (stg g src) wk : Nat) : Int)) := hfol
  have Hrn : Hid (rn = stg g src wk) := hrn
  have Hst : Hid (rn.length ≤ wk ∨ hit g goal rn = true) := hstop
  clear hR hfol hrn hstop hsrc hon
  have hb1 : decide (g.n < rn.length) = false := decide_eq_false (by omega)
  have hb2 : decide (rn.length < wk) = false := decide_eq_false (by omega)
  have hb3 : decide ((wk : Int) < 0) = false := decide_eq_false (by omega)
  go_enter Try.func24, Try.ntmps24
  go_wp2_with fail
  refine Calls.mono hnodes ?_
  rintro e w1 ⟨rfl, hw⟩
  rw [hw]
  clear hnodes hw
  go_wp2_with fail
  refine Calls.mono hwalked ?_
  rintro e w1 ⟨rfl, hw⟩
  rw [hw]
  clear hwalked hw
  go_wp2_with fail
  refine Calls.mono hset ?_
  rintro e w1 ⟨rfl, hw⟩
  rw [hw]
  clear hset hw
  go_wp2_with fail
  refine Calls.mono hnum ?_
  rintro e w1 ⟨rfl, hw⟩
  rw [hw]
  clear hnum hw
  go_wp2_with fail
  clear hmkb hmkr
  go_loopg [24, 25, 26] rn.length (fun gh s _ _ wr => ∃ p : Nat, p ≤ rn.length ∧ gh = rn.length - p ∧ s = .int .i64 p ∧ TabA w wr g.n rn p)
  case atStart => exact ⟨0, Nat.zero_le _, rfl, rfl, tabA_start w g.n rn⟩
  case round =>
    obtain ⟨p, hp, rfl, rfl, hT⟩ := hrel
    by_cases hlt : p < rn.length
    · obtain ⟨gb, hao, hcl⟩ := hcell p (by simpa using hlt)
      subst hao
      have hgl := World.block_lt_of_cell? _ _ hcl
      have hcl' : wr.cell? ⟨gb, p, none⟩ = some (.int .i32 (g.vN rn[p])) := by rw [hT.below.cell (p := ⟨gb, p, none⟩) hgl, hcl]; simp
      have hv := hmem _ (List.getElem_mem hlt)
      have hix := GA.ix_at hg hv
      have hnum := numberIn_any wr g hn _ aN cN (hN.below hT.below) (g.vN rn[p])
      rw [hix.1, hix.2] at hnum
      have hnot : hh (rn.take p) rn[p] = false := by
        simp only [hh, decide_eq_false_iff_not]
        intro hm
        obtain ⟨j, hj, e⟩ := List.mem_take_iff_getElem.1 hm
        have hj' : j < p := by omega
        exact absurd ((List.getElem_inj hnd).1 e) (by omega)
      have d1 : wr.cell? ⟨w.heap.size, rn[p], none⟩ = some (.bool false) := by rw [hT.inR.cell hv, hnot]
      have d1' : wr.frozen? ⟨w.heap.size, rn[p], none⟩ = false := hT.inR.frozen _
      have d2 : wr.cell? ⟨w.heap.size + 1, p, none⟩ = some (.int .i32 0) := by simpa using hT.num.cell hlt
      have d2' : wr.frozen? ⟨w.heap.size + 1, p, none⟩ = false := hT.num.frozen _
      have hT' := tabA_step hT hlt
      have hpl : (p : Int) < rn.length := by omega
      have hvl : (rn[p] : Int) < g.n := by omega
      clear hT hcl hix hnot hcell
      generalize rn[p] = v at *
      go_wp2_with fail
      refine Calls.mono hnum ?_
      rintro e w1 ⟨rfl, hw⟩
      rw [hw]
      clear hnum hw
      go_wp2_with fail
      go_roundg (rn.length - (p + 1))
      case measure => omega
      case rel => exact ⟨p + 1, by omega, rfl, by go_num, hT'⟩
    · obtain rfl : p = rn.length := by omega
      obtain ⟨hA1, hA2⟩ := tabA_done hT
      have hbA := hT.below
      have hmkb := run_make_row' (P := Try.prog) 33 4 (.bool false) 1 Try.underlying33 Try.info4 rfl .i64 .i64 g.n (by omega) (by omega)
      have hmki := run_make_row' (P := Try.prog) 73 3 (.int .i64 0) 8 Try.underlying73 Try.info3 rfl .i64 .i64 g.n (by omega) (by omega)
      obtain ⟨wA, hwA⟩ : ∃ wA, wA = wr := ⟨_, rfl⟩
      subst hwA
      have hstart := tabB_start wA g.n
      have hNA := hN.below hbA
      have hFA := hF.below hbA
      have hSA := hS.below hbA
      have hsz := hbA.size
      clear hT hcell hN hF hS
      go_wp2_with fail
      clear hmkb hmki
      have hdeg : ∀ t, t ≤ wk → wkr g src t < g.n := fun t ht => by
        cases t with
        | zero => exact hsn
        | succ t =>
          have hl := (hlive t (Nat.zero_le _) (by omega)).1
          have e : wkr g src (t + 1) = (stg g src t)[t] := by
            show (stg g src t).getD t 0 = _
            rw [List.getD_eq_getElem?_getD, List.getElem?_eq_getElem hl]; rfl
          rw [e]
          have h2 := stg_get g src (t := t) (t' := wk) (by omega) hl
          rw [← h2]
          exact hmem _ (by rw [Hrn.out]; exact List.getElem_mem _)
      have hwk2 : ∀ t, t < wk → wkr g src (t + 1) = rn.getD t 0 := fun t ht => by
        have hl := (hlive t (Nat.zero_le _) (by omega)).1
        show (stg g src t).getD t 0 = _
        have h2 := stg_get g src (t := t) (t' := wk) (by omega) hl
        rw [List.getD_eq_getElem?_getD, List.getElem?_eq_getElem hl, Hrn.out, List.getD_eq_getElem?_getD, List.getElem?_eq_getElem (Nat.lt_of_lt_of_le hl (stg_len g src (by omega))), h2]
      have hsum : ∀ t, t ≤ wk + 1 → sumT g src t ≤ t * 262144 := fun t ht => by
        induction t with
        | zero => simp [sumT]
        | succ t ih =>
          have h1 := ih (by omega)
          have h2 := hdeg t (by omega)
          have h3 : g.FR (wkr g src t + 1) ≤ g.ls := Nat.le_trans (hg.le (wkr g src t + 1) g.n (by omega) (Nat.le_refl _)) hg.top
          rw [sumT, Nat.succ_mul]
          have h4 : deg g (wkr g src t) ≤ 262144 := by unfold deg; omega
          omega
      have Hdeg : Hid (∀ t, t ≤ wk → wkr g src t < g.n) := hdeg
      have Hwk2 : Hid (∀ t, t < wk → wkr g src (t + 1) = rn.getD t 0) := hwk2
      have Hsum : Hid (∀ t, t ≤ wk + 1 → sumT g src t ≤ t * 262144) := hsum
      clear hdeg hwk2 hsum
      go_loopg [30, 31, 32, 33, 34, 35, 36] (wk + 1) (fun gh s30 s31 _ _ _ _ _ wr => ∃ (t : Nat) (kw ke : Nat → Int), t ≤ wk + 1 ∧ gh = wk + 1 - t ∧ s30 = .int .i64 (sumT g src t : Int) ∧ s31 = .int .i64 ((t : Int) - 1) ∧ TabB wA wr g.n (pl g src t) kw ke ∧ KInv (pl g src t) (pl g src t) kw ke ((t : Int) - 1) 0 ∧ ∀ v, v ∈ pl g src t → v ∉ pl g src (t - 1) → kw v = (t : Int) - 2)
      case atStart => exact ⟨0, fun _ => 0, fun _ => 0, Nat.zero_le _, rfl, rfl, rfl, hstart, ⟨fun p h => by simp [pl] at h, fun p h => by simp [pl] at h, fun v h => by simp [pl] at h⟩, fun v h => by simp [pl] at h⟩
      case round =>
        obtain ⟨t, kw, ke, ht, rfl, rfl, rfl, hB, hK, hlast⟩ := hrel
        clear hstart
        by_cases hlt : t < wk + 1
        · have hW := Hdeg.out t (by omega)
          have hstep := pl_step hlive (t := t) (by omega)
          have hplen := pl_len hlive (t := t) (by omega)
          have hsT : sumT g src (t + 1) = sumT g src t + deg g (wkr g src t) := rfl
          have hs1 := Hsum.out t (by omega)
          have hm0 := hg.mono _ hW
          have h3 : g.FR (wkr g src t + 1) ≤ g.ls := Nat.le_trans (hg.le (wkr g src t + 1) g.n (by omega) (Nat.le_refl _)) hg.top
          obtain ⟨bF, oF, haF, hbF, f0⟩ := hFA (wkr g src t) (by omega)
          obtain ⟨bF', oF', haF', hbF', f1⟩ := hFA (wkr g src t + 1) (by omega)
          rw [haF] at haF'
          cases haF'
          replace f0 : wr.cell? ⟨bF, oF + wkr g src t, none⟩ = some (.int .i32 (g.FR (wkr g src t) : Int)) := by rw [hB.below.cell (p := ⟨bF, oF + wkr g src t, none⟩) (by show bF < wA.heap.size; omega)]; exact f0
          replace f1 : wr.cell? ⟨bF, oF + (wkr g src t + 1), none⟩ = some (.int .i32 (g.FR (wkr g src t + 1) : Int)) := by rw [hB.below.cell (p := ⟨bF, oF + (wkr g src t + 1), none⟩) (by show bF < wA.heap.size; omega)]; exact f1
          subst haF
          have Hstep : Hid (pl g src (t + 1) = vis g (wkr g src t) (pl g src t)) := hstep
          have HsT : Hid (sumT g src (t + 1) = sumT g src t + deg g (wkr g src t)) := hsT
          clear hstep hsT
          cases t with
          | zero =>
            have cq : True := trivial
            have hWe : Hid (wkr g src 0 = src) := rfl
            have HLe : Hid (pl g src 0 = pl g src 0) := rfl
            obtain ⟨L, hL'⟩ : ∃ L, pl g src 0 = L := ⟨_, rfl⟩
            have hL : Hid (pl g src 0 = L) := hL'
            obtain ⟨lo, hlo'⟩ : ∃ lo, lo = g.FR src := ⟨_, rfl⟩
            obtain ⟨hi, hhi'⟩ : ∃ hi, hi = g.FR (src + 1) := ⟨_, rfl⟩
            have hlo : Hid (lo = g.FR src) := hlo'
            have hhi : Hid (hi = g.FR (src + 1)) := hhi'
            rw [hWe.out] at hW hm0 h3 f0 f1
            rw [← hlo'] at f0 hm0
            rw [← hhi'] at f1 hm0 h3
            rw [hL'] at hB hK hplen
            have hK0 : KInv L L kw ke (-1) 0 := by rw [show ((0 : Nat) : Int) - 1 = -1 from rfl] at hK; exact hK
            have hW1 : (src : Int) < ((g.n + 1 : Nat) : Int) := by omega
            have hW2 : (src : Int) + 1 < ((g.n + 1 : Nat) : Int) := by omega
            rw [show ((0 : Nat) : Int) - 1 = -1 from rfl]
            clear hlo' hhi' hL' HLe
            clear hs1
            have hs1 : sumT g src 0 ≤ 262144 := by simp [sumT]
            clear hK hlast
            go_wp2_with fail
            go_loopg [35, 36] (hi - lo) (fun gh s35 _ wr => ∃ (e : Nat) (kw ke : Nat → Int), lo ≤ e ∧ e ≤ hi ∧ gh = hi - e ∧ s35 = .int .i64 (e : Int) ∧ TabB wA wr g.n (visN g src L (e - lo)) kw ke ∧ KInv (visN g src L (e - lo)) L kw ke (-1) ((e : Int) - lo))
            case atStart => exact ⟨lo, kw, ke, Nat.le_refl _, hm0, rfl, rfl, by rw [Nat.sub_self]; exact hB, by rw [Nat.sub_self, Int.sub_self]; exact hK0⟩
            case round =>
              obtain ⟨e, kw', ke', hle, heh, rfl, rfl, hB', hK'⟩ := hrel
              clear hB hK0 f0 f1 cq
              by_cases hlt2 : e < hi
              · obtain ⟨bS, oS, rfl, hbS, cS⟩ := hSA e (by omega)
                have hST : g.ST (g.FR src + (e - lo)) = g.ST e := by rw [← hlo.out]; congr 1; omega
                have hnx : visN g src L (e + 1 - lo) = add1 (visN g src L (e - lo)) (g.ST e) := by rw [show e + 1 - lo = (e - lo) + 1 by omega, visN, hST]
                have cS' : wr.cell? ⟨bS, oS + e, none⟩ = some (.int .i32 (g.ST e : Int)) := by rw [hB'.below.cell (p := ⟨bS, oS + e, none⟩) (Nat.lt_of_lt_of_le hbS hsz)]; exact cS
                have hvn := hg.st e (by omega)
                have k1 := hB'.keyed.cell hvn
                have hel : (e : Int) < g.ls := by omega
                have hext : L.length ≤ (visN g src L (e - lo)).length := by
                  obtain ⟨x, hx⟩ := visN_ext g src L (e - lo)
                  rw [hx, List.length_append]; omega
                clear cS hST
                generalize g.ST e = v at *
                generalize visN g src L (e - lo) = R at hnx hB' hK' k1 hext
                have hvl : (v : Int) < g.n := by omega
                cases hH : hh R v with
                | true =>
                  have hnx' : visN g src L (e + 1 - lo) = R := by rw [hnx, add1, if_pos (by simpa [hh] using hH)]
                  rw [hH] at k1
                  have hK2 := hK'.stay
                  clear hK' hH hnx
                  go_wp2_with fail
                  go_roundg (hi - (e + 1))
                  case measure => omega
                  case rel => exact ⟨e + 1, kw', ke', by omega, by omega, rfl, by go_num, by rw [hnx']; exact hB', by rw [hnx', show ((e + 1 : Nat) : Int) - lo = (e : Int) - lo + 1 by omega]; exact hK2⟩
                | false =>
                  have hnot : v ∉ R := by simpa [hh] using hH
                  have hnx' : visN g src L (e + 1 - lo) = R ++ [v] := by rw [hnx, add1, if_neg hnot]
                  rw [hH] at k1
                  have k1' : wr.frozen? ⟨wA.heap.size, v, none⟩ = false := hB'.keyed.frozen v
                  have k2 : wr.cell? ⟨wA.heap.size + 1, v, none⟩ = some (.int .i64 (kw' v)) := hB'.kw.cell hvn
                  have k2' : wr.frozen? ⟨wA.heap.size + 1, v, none⟩ = false := hB'.kw.frozen v
                  have k3 : wr.cell? ⟨wA.heap.size + 1 + 1, v, none⟩ = some (.int .i64 (ke' v)) := hB'.ke.cell hvn
                  have k3' : wr.frozen? ⟨wA.heap.size + 1 + 1, v, none⟩ = false := hB'.ke.frozen v
                  have hB2 := tabB_add hB' v (-1) ((e : Int) - lo)
                  have hK2 := hK'.add hnot (by omega)
                  clear hK' hH hnx hB' hnot
                  go_wp2_with fail
                  go_roundg (hi - (e + 1))
                  case measure => omega
                  case rel => exact ⟨e + 1, _, _, by omega, by omega, rfl, by go_num, by rw [hnx']; exact hB2, by rw [hnx', show ((e + 1 : Nat) : Int) - lo = (e : Int) - lo + 1 by omega]; exact hK2⟩
              · obtain rfl : e = hi := by omega
                have hpl : pl g src (0 + 1) = visN g src L (e - lo) := by rw [Hstep.out, hWe.out, hL.out]; unfold vis deg; rw [← hlo.out, ← hhi.out]
                have hsT2 : (sumT g src 0 : Int) + ((e : Int) - lo) = (sumT g src (0 + 1) : Int) := by rw [HsT.out, hWe.out]; unfold deg; rw [← hlo.out, ← hhi.out]; omega
                rw [← hpl] at hB' hK'
                have hK2 := hK'.next
                go_wp2_with fail
                go_roundg (wk + 1 - (0 + 1))
                case measure => omega
                case rel => exact ⟨0 + 1, kw', ke', by omega, rfl, by rw [hsT2], by go_num, hB', by rw [show ((0 + 1 : Nat) : Int) - 1 = (-1) + 1 by omega]; exact hK2, fun v h1 h2 => by
                  have := hK'.new v h1 (by rw [← hL.out]; simpa using h2)
                  omega⟩

          | succ t =>
            have hwe := Hwk2.out t (by omega)
            have cq : wr.cell? ⟨w.heap.size + 1, t, none⟩ = some (.int .i32 (wkr g src (t + 1) : Int)) := by
              have h1 := hA2.cell (i := t) (by omega)
              rw [hB.below.cell (p := ⟨w.heap.size + 1, t, none⟩) hA2.lt, h1, hwe]
            obtain ⟨W, hWeq⟩ : ∃ W, wkr g src (t + 1) = W := ⟨_, rfl⟩
            rw [hWeq] at cq
            have htl : (t : Int) < rn.length := by omega
            have hWe : Hid (wkr g src (t + 1) = W) := hWeq
            have HLe : Hid (pl g src (t + 1) = pl g src (t + 1)) := rfl
            obtain ⟨L, hL'⟩ : ∃ L, pl g src (t + 1) = L := ⟨_, rfl⟩
            have hL : Hid (pl g src (t + 1) = L) := hL'
            obtain ⟨lo, hlo'⟩ : ∃ lo, lo = g.FR W := ⟨_, rfl⟩
            obtain ⟨hi, hhi'⟩ : ∃ hi, hi = g.FR (W + 1) := ⟨_, rfl⟩
            have hlo : Hid (lo = g.FR W) := hlo'
            have hhi : Hid (hi = g.FR (W + 1)) := hhi'
            rw [hWe.out] at hW hm0 h3 f0 f1
            rw [← hlo'] at f0 hm0
            rw [← hhi'] at f1 hm0 h3
            rw [hL'] at hB hK hplen
            have hK0 : KInv L L kw ke (t : Int) 0 := by rw [show ((t + 1 : Nat) : Int) - 1 = (t : Int) by omega] at hK; exact hK
            have hW1 : (W : Int) < ((g.n + 1 : Nat) : Int) := by omega
            have hW2 : (W : Int) + 1 < ((g.n + 1 : Nat) : Int) := by omega
            rw [show ((t + 1 : Nat) : Int) - 1 = (t : Int) by omega]
            clear hlo' hhi' hL' HLe
            clear hWeq hwe
            clear hK hlast
            go_wp2_with fail
            go_loopg [35, 36] (hi - lo) (fun gh s35 _ wr => ∃ (e : Nat) (kw ke : Nat → Int), lo ≤ e ∧ e ≤ hi ∧ gh = hi - e ∧ s35 = .int .i64 (e : Int) ∧ TabB wA wr g.n (visN g W L (e - lo)) kw ke ∧ KInv (visN g W L (e - lo)) L kw ke (t : Int) ((e : Int) - lo))
            case atStart => exact ⟨lo, kw, ke, Nat.le_refl _, hm0, rfl, rfl, by rw [Nat.sub_self]; exact hB, by rw [Nat.sub_self, Int.sub_self]; exact hK0⟩
            case round =>
              obtain ⟨e, kw', ke', hle, heh, rfl, rfl, hB', hK'⟩ := hrel
              clear hB hK0 f0 f1 cq
              by_cases hlt2 : e < hi
              · obtain ⟨bS, oS, rfl, hbS, cS⟩ := hSA e (by omega)
                have hST : g.ST (g.FR W + (e - lo)) = g.ST e := by rw [← hlo.out]; congr 1; omega
                have hnx : visN g W L (e + 1 - lo) = add1 (visN g W L (e - lo)) (g.ST e) := by rw [show e + 1 - lo = (e - lo) + 1 by omega, visN, hST]
                have cS' : wr.cell? ⟨bS, oS + e, none⟩ = some (.int .i32 (g.ST e : Int)) := by rw [hB'.below.cell (p := ⟨bS, oS + e, none⟩) (Nat.lt_of_lt_of_le hbS hsz)]; exact cS
                have hvn := hg.st e (by omega)
                have k1 := hB'.keyed.cell hvn
                have hel : (e : Int) < g.ls := by omega
                have hext : L.length ≤ (visN g W L (e - lo)).length := by
                  obtain ⟨x, hx⟩ := visN_ext g W L (e - lo)
                  rw [hx, List.length_append]; omega
                clear cS hST
                generalize g.ST e = v at *
                generalize visN g W L (e - lo) = R at hnx hB' hK' k1 hext
                have hvl : (v : Int) < g.n := by omega
                cases hH : hh R v with
                | true =>
                  have hnx' : visN g W L (e + 1 - lo) = R := by rw [hnx, add1, if_pos (by simpa [hh] using hH)]
                  rw [hH] at k1
                  have hK2 := hK'.stay
                  clear hK' hH hnx
                  go_wp2_with fail
                  go_roundg (hi - (e + 1))
                  case measure => omega
                  case rel => exact ⟨e + 1, kw', ke', by omega, by omega, rfl, by go_num, by rw [hnx']; exact hB', by rw [hnx', show ((e + 1 : Nat) : Int) - lo = (e : Int) - lo + 1 by omega]; exact hK2⟩
                | false =>
                  have hnot : v ∉ R := by simpa [hh] using hH
                  have hnx' : visN g W L (e + 1 - lo) = R ++ [v] := by rw [hnx, add1, if_neg hnot]
                  rw [hH] at k1
                  have k1' : wr.frozen? ⟨wA.heap.size, v, none⟩ = false := hB'.keyed.frozen v
                  have k2 : wr.cell? ⟨wA.heap.size + 1, v, none⟩ = some (.int .i64 (kw' v)) := hB'.kw.cell hvn
                  have k2' : wr.frozen? ⟨wA.heap.size + 1, v, none⟩ = false := hB'.kw.frozen v
                  have k3 : wr.cell? ⟨wA.heap.size + 1 + 1, v, none⟩ = some (.int .i64 (ke' v)) := hB'.ke.cell hvn
                  have k3' : wr.frozen? ⟨wA.heap.size + 1 + 1, v, none⟩ = false := hB'.ke.frozen v
                  have hB2 := tabB_add hB' v (t : Int) ((e : Int) - lo)
                  have hK2 := hK'.add hnot (by omega)
                  clear hK' hH hnx hB' hnot
                  go_wp2_with fail
                  go_roundg (hi - (e + 1))
                  case measure => omega
                  case rel => exact ⟨e + 1, _, _, by omega, by omega, rfl, by go_num, by rw [hnx']; exact hB2, by rw [hnx', show ((e + 1 : Nat) : Int) - lo = (e : Int) - lo + 1 by omega]; exact hK2⟩
              · obtain rfl : e = hi := by omega
                have hpl : pl g src ((t + 1) + 1) = visN g W L (e - lo) := by rw [Hstep.out, hWe.out, hL.out]; unfold vis deg; rw [← hlo.out, ← hhi.out]
                have hsT2 : (sumT g src (t + 1) : Int) + ((e : Int) - lo) = (sumT g src ((t + 1) + 1) : Int) := by rw [HsT.out, hWe.out]; unfold deg; rw [← hlo.out, ← hhi.out]; omega
                rw [← hpl] at hB' hK'
                have hK2 := hK'.next
                go_wp2_with fail
                go_roundg (wk + 1 - ((t + 1) + 1))
                case measure => omega
                case rel => exact ⟨(t + 1) + 1, kw', ke', by omega, rfl, by rw [hsT2], by go_num, hB', by rw [show (((t + 1) + 1 : Nat) : Int) - 1 = (t : Int) + 1 by omega]; exact hK2, fun v h1 h2 => by
                  have := hK'.new v h1 (by rw [← hL.out]; simpa using h2)
                  omega⟩

        · obtain rfl : t = wk + 1 := by omega
          have hpr : pl g src (wk + 1) = rn := Hrn.out.symm
          have hfs : fol = (sumT g src (wk + 1) : Int) := by rw [Hfol.out, sumT_walk]
          rw [← hfs, show ((wk + 1 : Nat) : Int) - 1 = (wk : Int) by omega]
          rw [hpr] at hB hK
          have hgl : ∀ v, v ∈ rn → v ∉ pl g src wk → kw v = (wk : Int) - 1 := fun v h1 h2 => by
            have := hlast v (by rw [hpr]; exact h1) h2
            omega
          have hRB : RS wr g br rn (metWith (fun _ => false) src) wk (.slice ao rn.length cap) few many := RS.below HR.out (hbA.trans (hB.below.mono hsz))
          have hBB : Below w.heap.size w wr := hbA.trans (hB.below.mono hsz)
          have i1 : wr.rowIs w.heap.size 4 g.n (fun j => .bool (hh rn j)) := hA1.of_block (hB.below.block _ hA1.lt)
          have i2 : wr.rowIs (w.heap.size + 1) 21 rn.length (fun j => .int .i32 (rn.getD j 0 : Int)) := hA2.of_block (hB.below.block _ hA2.lt)
          have i3 := hB.keyed
          have i4 := hB.kw
          have i5 := hB.ke
          have hNB := hNA.kept (Kept.of_below (hB.below.mono hsz))
          have HK : Hid (KInv rn rn kw ke ((((wk + 1 : Nat)) : Int) - 1) 0) := hK
          have Hgl : Hid (∀ v, v ∈ rn → v ∉ pl g src wk → kw v = (wk : Int) - 1) := hgl
          clear hgl hK hlast hfs hB hA1 hA2 hFA hSA Hsum Hwk2 Hdeg Hfol HR hNA hpr
          obtain ⟨wB, hwB⟩ : ∃ wB, wB = wr := ⟨_, rfl⟩
          subst hwB
          go_wp2_with fail
          go_loopg [37] g.n (fun gh s wr => ∃ r m : Nat, r ≤ g.n ∧ gh = g.n - r ∧ s = .int .i64 r ∧ wr = wB.drewN m)
          case atStart => exact ⟨0, 0, Nat.zero_le _, rfl, rfl, rfl⟩
          case round =>
            obtain ⟨r, m, hr, rfl, rfl, hwr⟩ := hrel
            subst hwr
            by_cases hltC : r < g.n
            · have k1 : wB.cell? ⟨w.heap.size, r, none⟩ = some (.bool (hh rn r)) := i1.cell hltC
              have k2 : wB.cell? ⟨wA.heap.size, r, none⟩ = some (.bool (hh rn r)) := i3.cell hltC
              generalize hh rn r = bq at k1 k2
              have hz : (r : Int) < g.n := by omega
              go_wp2_with fail
              go_big_region
              go_wp2_with fail
              go_roundg (g.n - (r + 1))
              case measure => omega
              case rel => exact ⟨r + 1, _, by omega, rfl, by go_num, rfl⟩
            · obtain rfl : r = g.n := by omega
              replace i1 := World.rowIs.of_block (w' := wB.drewN m) i1 rfl
              replace i2 := World.rowIs.of_block (w' := wB.drewN m) i2 rfl
              replace i4 := World.rowIs.of_block (w' := wB.drewN m) i4 rfl
              replace i5 := World.rowIs.of_block (w' := wB.drewN m) i5 rfl
              replace hRB := hRB.drewN m
              replace hNB := hNB.kept (Kept.refl _ wB |>.drewN m)
              replace hBB := (Kept.of_below hBB |>.drewN m).below
              generalize wB.drewN m = wC at i1 i2 i4 i5 hRB hNB hBB ⊢
              clear i3
              go_wp2_with fail
              go_loopg [38, 39, 40] rn.length (fun gh s _ _ wr => ∃ p m : Nat, p ≤ rn.length ∧ gh = rn.length - p ∧ s = .int .i64 p ∧ wr = wC.drewN m)
              case atStart => exact ⟨0, 0, Nat.zero_le _, rfl, rfl, rfl⟩
              case round =>
                obtain ⟨p, m, hp, rfl, rfl, hwr⟩ := hrel
                subst hwr
                by_cases hltD : p < rn.length
                · have hpl : (p : Int) < rn.length := by omega
                  have hpv : rn.getD p 0 = rn[p] := by rw [List.getD_eq_getElem?_getD, List.getElem?_eq_getElem hltD]; rfl
                  have k1 : wC.cell? ⟨w.heap.size + 1, p, none⟩ = some (.int .i32 (rn[p] : Int)) := by have := i2.cell hltD; rw [hpv] at this; exact this
                  have hv := hmem _ (List.getElem_mem hltD)
                  have k2 : wC.cell? ⟨wA.heap.size + 1, rn[p], none⟩ = some (.int .i64 (kw rn[p])) := i4.cell hv
                  have k3 : wC.cell? ⟨wA.heap.size + 1 + 1, rn[p], none⟩ = some (.int .i64 (ke rn[p])) := i5.cell hv
                  have hlow := (HK.out.low p hltD).1
                  have hvl : (rn[p] : Int) < g.n := by omega
                  by_cases hp0 : p = 0
                  · subst hp0
                    generalize rn[0] = v at *
                    generalize kw v = kv at *
                    clear k3 hpv
                    have hlow' : ¬ ((0 : Int) ≤ kv) := by simpa using hlow
                    go_wp2_with fail
                    go_roundg (rn.length - (0 + 1))
                    case measure => omega
                    case rel => exact ⟨0 + 1, m, by omega, rfl, by go_num, rfl⟩
                  · obtain ⟨p', hpp'⟩ : ∃ p', p = p' + 1 := ⟨p - 1, by omega⟩
                    have hltD' : p' < rn.length := by omega
                    have hpv' : rn.getD p' 0 = rn[p'] := by rw [List.getD_eq_getElem?_getD, List.getElem?_eq_getElem hltD']; rfl
                    have k4 : wC.cell? ⟨w.heap.size + 1, p', none⟩ = some (.int .i32 (rn[p'] : Int)) := by have := i2.cell hltD'; rw [hpv'] at this; exact this
                    have hu := hmem _ (List.getElem_mem hltD')
                    have k5 : wC.cell? ⟨wA.heap.size + 1, rn[p'], none⟩ = some (.int .i64 (kw rn[p'])) := i4.cell hu
                    have k6 : wC.cell? ⟨wA.heap.size + 1 + 1, rn[p'], none⟩ = some (.int .i64 (ke rn[p'])) := i5.cell hu
                    have hinc := HK.out.inc p' (by omega)
                    have e9 : rn[p' + 1]'(by omega) = rn[p] := by simp only [hpp']
                    rw [e9] at hinc
                    have hul : (rn[p'] : Int) < g.n := by omega
                    have hpl' : (p' : Int) < rn.length := by omega
                    have hsub : (p : Int) - 1 = (p' : Int) := by omega
                    have hpos : (0 : Int) < (p : Int) := by omega
                    clear hpv hpv' hv hu e9
                    generalize rn[p] = v at *
                    generalize rn[p'] = u at *
                    generalize kw v = kv at *
                    generalize kw u = ku at *
                    generalize ke v = ev at *
                    generalize ke u = eu at *
                    have hlow' : ¬ ((p : Int) ≤ kv) := by omega
                    clear hpp'
                    rcases hinc with hinc | ⟨hinc, hinc2⟩
                    · have q1 : decide (kv < ku) = false := decide_eq_false (by omega)
                      have q2 : (ku == kv) = false := by simp; omega
                      clear hlow hinc
                      go_wp2_with fail
                      go_big_region
                      go_wp2_with fail
                      go_roundg (rn.length - (p + 1))
                      case measure => omega
                      case rel => exact ⟨p + 1, _, by omega, rfl, by go_num, rfl⟩
                    · subst hinc
                      have q1 : decide (ku < ku) = false := decide_eq_false (by omega)
                      have q3 : decide (ev ≤ eu) = false := decide_eq_false (by omega)
                      clear hlow hinc2
                      go_wp2_with fail
                      go_big_region
                      go_wp2_with fail
                      go_roundg (rn.length - (p + 1))
                      case measure => omega
                      case rel => exact ⟨p + 1, _, by omega, rfl, by go_num, rfl⟩
                · obtain rfl : p = rn.length := by omega
                  replace i1 := World.rowIs.of_block (w' := wC.drewN m) i1 rfl
                  replace i4 := World.rowIs.of_block (w' := wC.drewN m) i4 rfl
                  replace hRB := hRB.drewN m
                  replace hNB := hNB.kept (Kept.refl _ wC |>.drewN m)
                  replace hBB := (Kept.of_below hBB |>.drewN m).below
                  clear i2 i5
                  generalize wC.drewN m = wD at i1 i4 hRB hNB hBB ⊢
                  have hnumg := numberIn_any wD g hn _ aN cN hNB goal
                  have hnumg0 := hnumg
                  obtain ⟨og, hog'⟩ : ∃ og, og = g.on goal := ⟨_, rfl⟩
                  rw [← hog'] at hnumg
                  have hog : Hid (og = g.on goal) := hog'
                  clear hog' hnumg0
                  have hmet := fun k (hk : k < g.n) => zzMet_any hRB hn hk
                  have hhold := fun k (hk : k < g.n) => zzHolds_any hRB hn hk
                  have hNn := nodeSetN_any hRB
                  go_wp2_with fail
                  refine Calls.mono hnumg ?_
                  rintro e w1 ⟨rfl, hw⟩
                  rw [hw]
                  clear hnumg hw
                  cases og with
                  | false =>
                    have hwl2 : (wk : Int) = rn.length := by
                      rcases Hst.out with h | h
                      · omega
                      · simp [hit, ← hog.out] at h
                    clear i4
                    go_wp2_with fail
                    go_loopg [43, 44, 45, 46] g.n (fun gh s43 s44 _ _ wr => ∃ r : Nat, r ≤ g.n ∧ gh = g.n - r ∧ s43 = .int .i64 (cnt (mm rn (metWith (fun _ => false) src)) r : Int) ∧ s44 = .int .i64 r ∧ wr = wD)
                    case atStart => exact ⟨0, Nat.zero_le _, rfl, rfl, rfl, rfl⟩
                    case round =>
                      obtain ⟨r, hr, rfl, rfl, rfl, hwr⟩ := hrel
                      subst hwr
                      by_cases hltE : r < g.n
                      · have hm := hmet r hltE
                        have hh1 := hhold r hltE
                        have hw1 := wrap_in32 (r : Int) (by omega) (by omega)
                        have hz : (r : Int) < g.n := by omega
                        have k1 : wr.cell? ⟨w.heap.size, r, none⟩ = some (.bool (hh rn r)) := i1.cell hltE
                        have hcb := cnt_le (mm rn (metWith (fun _ => false) src)) r
                        have hcs := cnt_succ (mm rn (metWith (fun _ => false) src)) r
                        have hmq : mm rn (metWith (fun _ => false) src) r = (hh rn r || decide (r = src)) := by simp [mm, hh, metWith]
                        rw [hmq] at hm hcs
                        clear hmq hmet hhold hNn
                        generalize cnt (mm rn (metWith (fun _ => false) src)) r = c0 at *
                        cases hb : hh rn r with
                        | true =>
                          rw [hb] at hm hh1 k1 hcs
                          simp only [Bool.true_or, if_true] at hm hcs
                          clear hb
                          go_wp2_with fail
                          refine Calls.mono hm ?_
                          rintro e w1 ⟨rfl, hw⟩
                          rw [hw]
                          clear hm hw
                          go_wp2_with fail
                          refine Calls.mono hh1 ?_
                          rintro e w1 ⟨rfl, hw⟩
                          rw [hw]
                          clear hh1 hw
                          go_wp2_with fail
                          go_roundg (g.n - (r + 1))
                          case measure => omega
                          case rel => exact ⟨r + 1, by omega, rfl, by first | (rw [hcs]; done) | (rw [hcs]; go_num), by go_num, rfl⟩
                        | false =>
                          rw [hb] at hm hh1 k1 hcs
                          by_cases ers : r = src
                          · rw [decide_eq_true ers] at hm hcs
                            simp only [Bool.false_or, if_true] at hm hcs
                            have hrs : ((r : Int) == (src : Int)) = true := by simp [ers]
                            clear ers
                            clear hb
                            go_wp2_with fail
                            refine Calls.mono hm ?_
                            rintro e w1 ⟨rfl, hw⟩
                            rw [hw]
                            clear hm hw
                            go_wp2_with fail
                            refine Calls.mono hh1 ?_
                            rintro e w1 ⟨rfl, hw⟩
                            rw [hw]
                            clear hh1 hw
                            go_wp2_with fail
                            go_roundg (g.n - (r + 1))
                            case measure => omega
                            case rel => exact ⟨r + 1, by omega, rfl, by first | (rw [hcs]; done) | (rw [hcs]; go_num), by go_num, rfl⟩
                          · rw [decide_eq_false ers] at hm hcs
                            simp only [Bool.or_false, Bool.false_eq_true, if_false, Nat.add_zero] at hm hcs
                            have hrs : ((r : Int) == (src : Int)) = false := by simp; omega
                            clear ers
                            clear hb
                            go_wp2_with fail
                            refine Calls.mono hm ?_
                            rintro e w1 ⟨rfl, hw⟩
                            rw [hw]
                            clear hm hw
                            go_wp2_with fail
                            refine Calls.mono hh1 ?_
                            rintro e w1 ⟨rfl, hw⟩
                            rw [hw]
                            clear hh1 hw
                            go_wp2_with fail
                            go_roundg (g.n - (r + 1))
                            case measure => omega
                            case rel => exact ⟨r + 1, by omega, rfl, by first | (rw [hcs]; done) | (rw [hcs]; go_num), by go_num, rfl⟩
                      · obtain rfl : r = g.n := by omega
                        clear hmet hhold
                        go_wp2_with fail
                        refine Calls.mono hNn ?_
                        rintro e w1 ⟨rfl, hw⟩
                        rw [hw]
                        clear hNn hw
                        go_wp2_with fail
                        go_ret
                        exact ⟨by simp, hBB⟩
                  | true =>
                    have hix2 := (GA.ix_on hog.out.symm).1
                    have hil : (g.ix goal : Int) < g.n := by omega
                    have k1 : wD.cell? ⟨w.heap.size, g.ix goal, none⟩ = some (.bool (hh rn (g.ix goal))) := i1.cell hix2
                    cases hH : hh rn (g.ix goal) with
                    | true =>
                      have hkw : kw (g.ix goal) = (wk : Int) - 1 := by
                        refine Hgl.out _ (by simpa [hh] using hH) (fun hm => ?_)
                        cases wk with
                        | zero => simp [pl] at hm
                        | succ k =>
                          have := (hlive k (Nat.zero_le _) (by omega)).2
                          have hm' : g.ix goal ∈ stg g src k := hm
                          have h2 : hh (stg g src k) (g.ix goal) = true := by simpa [hh] using hm'
                          simp [hit, ← hog.out, h2] at this
                      have k2 : wD.cell? ⟨wA.heap.size + 1, g.ix goal, none⟩ = some (.int .i64 ((wk : Int) - 1)) := by rw [← hkw]; exact i4.cell hix2
                      rw [hH] at k1
                      clear hkw hH i4
                      go_wp2_with fail
                      go_loopg [43, 44, 45, 46] g.n (fun gh s43 s44 _ _ wr => ∃ r : Nat, r ≤ g.n ∧ gh = g.n - r ∧ s43 = .int .i64 (cnt (mm rn (metWith (fun _ => false) src)) r : Int) ∧ s44 = .int .i64 r ∧ wr = wD)
                      case atStart => exact ⟨0, Nat.zero_le _, rfl, rfl, rfl, rfl⟩
                      case round =>
                        obtain ⟨r, hr, rfl, rfl, rfl, hwr⟩ := hrel
                        subst hwr
                        by_cases hltE : r < g.n
                        · have hm := hmet r hltE
                          have hh1 := hhold r hltE
                          have hw1 := wrap_in32 (r : Int) (by omega) (by omega)
                          have hz : (r : Int) < g.n := by omega
                          have k1 : wr.cell? ⟨w.heap.size, r, none⟩ = some (.bool (hh rn r)) := i1.cell hltE
                          have hcb := cnt_le (mm rn (metWith (fun _ => false) src)) r
                          have hcs := cnt_succ (mm rn (metWith (fun _ => false) src)) r
                          have hmq : mm rn (metWith (fun _ => false) src) r = (hh rn r || decide (r = src)) := by simp [mm, hh, metWith]
                          rw [hmq] at hm hcs
                          clear hmq hmet hhold hNn
                          generalize cnt (mm rn (metWith (fun _ => false) src)) r = c0 at *
                          cases hb : hh rn r with
                          | true =>
                            rw [hb] at hm hh1 k1 hcs
                            simp only [Bool.true_or, if_true] at hm hcs
                            clear hb
                            go_wp2_with fail
                            refine Calls.mono hm ?_
                            rintro e w1 ⟨rfl, hw⟩
                            rw [hw]
                            clear hm hw
                            go_wp2_with fail
                            refine Calls.mono hh1 ?_
                            rintro e w1 ⟨rfl, hw⟩
                            rw [hw]
                            clear hh1 hw
                            go_wp2_with fail
                            go_roundg (g.n - (r + 1))
                            case measure => omega
                            case rel => exact ⟨r + 1, by omega, rfl, by first | (rw [hcs]; done) | (rw [hcs]; go_num), by go_num, rfl⟩
                          | false =>
                            rw [hb] at hm hh1 k1 hcs
                            by_cases ers : r = src
                            · rw [decide_eq_true ers] at hm hcs
                              simp only [Bool.false_or, if_true] at hm hcs
                              have hrs : ((r : Int) == (src : Int)) = true := by simp [ers]
                              clear ers
                              clear hb
                              go_wp2_with fail
                              refine Calls.mono hm ?_
                              rintro e w1 ⟨rfl, hw⟩
                              rw [hw]
                              clear hm hw
                              go_wp2_with fail
                              refine Calls.mono hh1 ?_
                              rintro e w1 ⟨rfl, hw⟩
                              rw [hw]
                              clear hh1 hw
                              go_wp2_with fail
                              go_roundg (g.n - (r + 1))
                              case measure => omega
                              case rel => exact ⟨r + 1, by omega, rfl, by first | (rw [hcs]; done) | (rw [hcs]; go_num), by go_num, rfl⟩
                            · rw [decide_eq_false ers] at hm hcs
                              simp only [Bool.or_false, Bool.false_eq_true, if_false, Nat.add_zero] at hm hcs
                              have hrs : ((r : Int) == (src : Int)) = false := by simp; omega
                              clear ers
                              clear hb
                              go_wp2_with fail
                              refine Calls.mono hm ?_
                              rintro e w1 ⟨rfl, hw⟩
                              rw [hw]
                              clear hm hw
                              go_wp2_with fail
                              refine Calls.mono hh1 ?_
                              rintro e w1 ⟨rfl, hw⟩
                              rw [hw]
                              clear hh1 hw
                              go_wp2_with fail
                              go_roundg (g.n - (r + 1))
                              case measure => omega
                              case rel => exact ⟨r + 1, by omega, rfl, by first | (rw [hcs]; done) | (rw [hcs]; go_num), by go_num, rfl⟩
                        · obtain rfl : r = g.n := by omega
                          clear hmet hhold
                          go_wp2_with fail
                          refine Calls.mono hNn ?_
                          rintro e w1 ⟨rfl, hw⟩
                          rw [hw]
                          clear hNn hw
                          go_wp2_with fail
                          go_ret
                          exact ⟨by simp, hBB⟩
                    | false =>
                      have hwl2 : (wk : Int) = rn.length := by
                        rcases Hst.out with h | h
                        · omega
                        · simp [hit, ← hog.out, hH] at h
                      rw [hH] at k1
                      clear hH i4
                      go_wp2_with fail
                      go_loopg [43, 44, 45, 46] g.n (fun gh s43 s44 _ _ wr => ∃ r : Nat, r ≤ g.n ∧ gh = g.n - r ∧ s43 = .int .i64 (cnt (mm rn (metWith (fun _ => false) src)) r : Int) ∧ s44 = .int .i64 r ∧ wr = wD)
                      case atStart => exact ⟨0, Nat.zero_le _, rfl, rfl, rfl, rfl⟩
                      case round =>
                        obtain ⟨r, hr, rfl, rfl, rfl, hwr⟩ := hrel
                        subst hwr
                        by_cases hltE : r < g.n
                        · have hm := hmet r hltE
                          have hh1 := hhold r hltE
                          have hw1 := wrap_in32 (r : Int) (by omega) (by omega)
                          have hz : (r : Int) < g.n := by omega
                          have k1 : wr.cell? ⟨w.heap.size, r, none⟩ = some (.bool (hh rn r)) := i1.cell hltE
                          have hcb := cnt_le (mm rn (metWith (fun _ => false) src)) r
                          have hcs := cnt_succ (mm rn (metWith (fun _ => false) src)) r
                          have hmq : mm rn (metWith (fun _ => false) src) r = (hh rn r || decide (r = src)) := by simp [mm, hh, metWith]
                          rw [hmq] at hm hcs
                          clear hmq hmet hhold hNn
                          generalize cnt (mm rn (metWith (fun _ => false) src)) r = c0 at *
                          cases hb : hh rn r with
                          | true =>
                            rw [hb] at hm hh1 k1 hcs
                            simp only [Bool.true_or, if_true] at hm hcs
                            clear hb
                            go_wp2_with fail
                            refine Calls.mono hm ?_
                            rintro e w1 ⟨rfl, hw⟩
                            rw [hw]
                            clear hm hw
                            go_wp2_with fail
                            refine Calls.mono hh1 ?_
                            rintro e w1 ⟨rfl, hw⟩
                            rw [hw]
                            clear hh1 hw
                            go_wp2_with fail
                            go_roundg (g.n - (r + 1))
                            case measure => omega
                            case rel => exact ⟨r + 1, by omega, rfl, by first | (rw [hcs]; done) | (rw [hcs]; go_num), by go_num, rfl⟩
                          | false =>
                            rw [hb] at hm hh1 k1 hcs
                            by_cases ers : r = src
                            · rw [decide_eq_true ers] at hm hcs
                              simp only [Bool.false_or, if_true] at hm hcs
                              have hrs : ((r : Int) == (src : Int)) = true := by simp [ers]
                              clear ers
                              clear hb
                              go_wp2_with fail
                              refine Calls.mono hm ?_
                              rintro e w1 ⟨rfl, hw⟩
                              rw [hw]
                              clear hm hw
                              go_wp2_with fail
                              refine Calls.mono hh1 ?_
                              rintro e w1 ⟨rfl, hw⟩
                              rw [hw]
                              clear hh1 hw
                              go_wp2_with fail
                              go_roundg (g.n - (r + 1))
                              case measure => omega
                              case rel => exact ⟨r + 1, by omega, rfl, by first | (rw [hcs]; done) | (rw [hcs]; go_num), by go_num, rfl⟩
                            · rw [decide_eq_false ers] at hm hcs
                              simp only [Bool.or_false, Bool.false_eq_true, if_false, Nat.add_zero] at hm hcs
                              have hrs : ((r : Int) == (src : Int)) = false := by simp; omega
                              clear ers
                              clear hb
                              go_wp2_with fail
                              refine Calls.mono hm ?_
                              rintro e w1 ⟨rfl, hw⟩
                              rw [hw]
                              clear hm hw
                              go_wp2_with fail
                              refine Calls.mono hh1 ?_
                              rintro e w1 ⟨rfl, hw⟩
                              rw [hw]
                              clear hh1 hw
                              go_wp2_with fail
                              go_roundg (g.n - (r + 1))
                              case measure => omega
                              case rel => exact ⟨r + 1, by omega, rfl, by first | (rw [hcs]; done) | (rw [hcs]; go_num), by go_num, rfl⟩
                        · obtain rfl : r = g.n := by omega
                          clear hmet hhold
                          go_wp2_with fail
                          refine Calls.mono hNn ?_
                          rintro e w1 ⟨rfl, hw⟩
                          rw [hw]
                          clear hNn hw
                          go_wp2_with fail
                          go_ret
                          exact ⟨by simp, hBB⟩


end Go.Proofs.Qxb6619590a

