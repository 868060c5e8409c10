/-
  Statement 1: function 3, the law.
-/
import Derived.Test.Qxb6618050aSpOver
import Derived.Test.Qxb6618050aSpSeven
namespace Go.Proofs.Qxb6618050a
open Go.RowKit Go.Deep

set_option maxRecDepth 100000 in
set_option maxHeartbeats 4000000 in
theorem fn3_any (w : World) (aK aE aB : Option Addr) (nK cK nE cE nB cB : Nat) (AK AE AB : Nat → Option Addr) (LK CK LE CE LB CB : Nat → Nat) (S : Nat → Nat → ByteArray) (ZE ZB : Nat → Nat → Int) (first i : Int) (root : ByteArray)
    (hK : Grid w w.heap.size aK nK AK LK CK (fun j k => .string (S j k))) (hE : Grid w w.heap.size aE nE AE LE CE (fun j k => .int .u8 (ZE j k))) (hB : Grid w w.heap.size aB nB AB LB CB (fun j k => .int .u8 (ZB j k)))
    (hS : Hid (∀ j k, (S j k).size ≤ 9223372036854775807)) (hr : root.size ≤ 9223372036854775807) (h1 : nK ≤ 9223372036854775807) (h2 : nE ≤ 9223372036854775807) (h3 : nB ≤ 9223372036854775807) :
    Calls Try.prog 3 #[.slice aK nK cK, .slice aE nE cE, .slice aB nB cB, .int .i64 first, .string root, .int .i64 i] w fun e w' => e = .returned (.bool true) ∧ Below w.heap.size w w' := by
  go_enter Try.func3, Try.ntmps3
  go_wp2_with fail
  refine Calls.mono (zz_any w w.heap.size aK aE aB nK cK nE cE nB cB AK AE AB LK CK LE CE LB CB S _ _ first i root hK hE hB hS hr h1 h2 h3) ?_
  rintro e w' ⟨b, rfl, rfl, hsm0⟩
  cases b with
  | false =>
    go_wp2_with fail
    go_ret
    exact ⟨rfl, Below.refl _ _⟩
  | true =>
    have hsm := hsm0 rfl
    clear hsm0
    go_wp2_with fail
    refine Calls.mono (over_any w' w'.heap.size aK aE aB nK cK nE cE nB cB AK AE AB LK CK LE CE LB CB S _ _ root hK hE hB hS hr hsm) ?_
    rintro e w ⟨b, rfl, rfl, _⟩
    cases b with
    | true =>
      go_wp2_with fail
      go_ret
      exact ⟨rfl, Below.refl _ _⟩
    | false =>
      have k1 := hsm.k
      have k2 := hsm.e
      have k3 := hsm.b
      by_cases e1 : nE = nK
      · subst e1
        by_cases e2 : nB = nE
        · subst e2
          by_cases hi : 0 ≤ i ∧ i < nB
          · obtain ⟨hi0, hi1⟩ := hi
            obtain ⟨m, rfl⟩ : ∃ m : Nat, i = (m : Int) := ⟨i.toNat, by omega⟩
            have hm : m < nB := by omega
            obtain ⟨b, o, rfl, hb, hc⟩ := hK.row m hm
            have hll := hsm.lk m hm
            by_cases hl : 128 ≤ LK m
            · obtain ⟨bE, oE, rfl, _, _⟩ := hE.row m hm
              obtain ⟨bB, oB, rfl, _, _⟩ := hB.row m hm
              have hLK : Hid (∀ j, j < nB → LK j ≤ 1048576) := hsm.lk
              have hLE : Hid (∀ j, j < nB → LE j ≤ 1048576) := hsm.le
              have hLB : Hid (∀ j, j < nB → LB j ≤ 1048576) := hsm.lb
              have HAm : Hid ((AK m).isSome = true) := by
                obtain ⟨b', o', e', _⟩ := hK.elt m hm 0 (by omega)
                show (AK m).isSome = true
                rw [e']; rfl
              clear hsm k2 k3 h1 h2 h3
              go_wp2_with fail
              refine Calls.mono (cloneKeys_any w ⟨b, o, none⟩ nB cK AK LK CK S hK k1 hLK) ?_
              rintro e w1 ⟨rfl, o1⟩
              have s1 : w.heap.size < w1.heap.size := o1.rows.lt
              have gE1 := (hE.below o1.since).mono (show w.heap.size ≤ w1.heap.size by omega)
              go_wp2_with fail
              refine Calls.mono (cloneBytes_any w1 ⟨bE, oE, none⟩ nB cE AE LE CE ZE gE1 k1 hLE) ?_
              rintro e w2 ⟨rfl, o2⟩
              have s2 : w1.heap.size < w2.heap.size := o2.rows.lt
              have gB2 := ((hB.below o1.since).below (o2.since.mono (by omega))).mono (show w.heap.size ≤ w2.heap.size by omega)
              go_wp2_with fail
              refine Calls.mono (cloneBytes_any w2 ⟨bB, oB, none⟩ nB cB AB LB CB ZB gB2 k1 hLB) ?_
              rintro e w3 ⟨rfl, o3⟩
              have s3 : w2.heap.size < w3.heap.size := o3.rows.lt
              have gK3 := (o1.later hK (o2.since.trans (o3.since.mono (by omega))) (Nat.le_refl _)).mono (show w1.heap.size ≤ w3.heap.size by omega)
              have gE3 := (o2.later gE1 o3.since (Nat.le_refl _)).mono (show w2.heap.size ≤ w3.heap.size by omega)
              have gB3 := o3.later gB2 (Below.refl w3.heap.size w3) (Nat.le_refl _)
              go_wp2_with fail
              refine Calls.mono (cloneKeys_any w3 ⟨w.heap.size, 0, none⟩ nB nB _ LK LK S gK3 k1 hLK) ?_
              rintro e w4 ⟨rfl, o4⟩
              have s4 : w3.heap.size < w4.heap.size := o4.rows.lt
              have gE4 := (gE3.below o4.since).mono (show w3.heap.size ≤ w4.heap.size by omega)
              go_wp2_with fail
              refine Calls.mono (cloneBytes_any w4 ⟨w1.heap.size, 0, none⟩ nB nB _ LE LE ZE gE4 k1 hLE) ?_
              rintro e w5 ⟨rfl, o5⟩
              have s5 : w4.heap.size < w5.heap.size := o5.rows.lt
              have gB5 := (gB3.below (o4.since.trans (o5.since.mono (by omega)))).mono (show w3.heap.size ≤ w5.heap.size by omega)
              go_wp2_with fail
              refine Calls.mono (cloneBytes_any w5 ⟨w2.heap.size, 0, none⟩ nB nB _ LB LB ZB gB5 k1 hLB) ?_
              rintro e w6 ⟨rfl, o6⟩
              have s6 : w5.heap.size < w6.heap.size := o6.rows.lt
              have hs : (cloneA AK w.heap.size m).isSome = true := by rw [cloneA_some HAm.out]; rfl
              have b46 : Below w4.heap.size w4 w6 := o5.since.trans (o6.since.mono (by omega))
              have rK := o4.rows.of_block (b46.block w3.heap.size (by omega))
              have rE := o5.rows.of_block (o6.since.block w4.heap.size (by omega))
              have rB := o6.rows
              have rk := (o4.done m hm hs).of_block (b46.block (w3.heap.size + 1 + cnt (cloneA AK w.heap.size) m) (o4.done m hm hs).lt)
              have hzz := zzsplit_any w6 w3.heap.size w4.heap.size w5.heap.size nB m _ _ _ _ LK LE LB (S m) first root rK rE rB (cloneA_some hs) rk hm k1 hl hll
              have HZ : Hid (Calls _ _ _ _ _) := hzz
              clear hzz rk rK rE rB b46
              go_wp2_with fail
              refine Calls.mono HZ.out ?_
              rintro e w7 ⟨M, au, cu, rfl, hz⟩
              have h7 := seven hK hE hB hm hl o1 o2 o3 o4 o5 o6 hz hs
              clear hz hs s1 s2 s3 s4 s5 s6 o1 o2 o3 o4 o5 o6 HZ gE1 gB2 gK3 gE3 gB3 gE4 gB5 hK hE hB hc
              obtain ⟨AO, CO, gO⟩ := h7.outK
              obtain ⟨AK7, gK⟩ := h7.keys
              have hLO : Hid (∀ j, j < nB + 1 → cutL m LK j ≤ 1048576) := cutL_small hm hLK.out
              go_wp2_with fail
              refine Calls.mono (flatten_any w7 w7.heap.size _ (nB + 1) (nB + 1) AO (cutL m LK) CO (cutS m S) gO (Nat.le_refl _) (by omega) hLO) ?_
              rintro e w8 ⟨v8, rfl, f8⟩
              rw [flat_same S hm hl] at f8
              have hfl := flat_le (S := S) hLK.out nB (Nat.le_refl _)
              have gK8 := gK.below f8.below
              have s8 := f8.below.size
              go_wp2_with fail
              refine Calls.mono (flatten_any w8 w7.heap.size _ nB nB AK7 LK LK S gK8 s8 (by omega) hLK) ?_
              rintro e w9 ⟨v9, rfl, f9⟩
              obtain ⟨ss, hss⟩ : ∃ ss, ss = flat LK S nB := ⟨_, rfl⟩
              rw [← hss] at f8 f9 hfl
              obtain ⟨a8, c8, hv8, el8⟩ := owned_elts (d := ByteArray.empty) f8.own f9.below
              obtain ⟨a9, c9, hv9, el9⟩ := owned_elts (d := ByteArray.empty) f9.own (Below.refl _ w9)
              have s9 := f9.below.size
              have b79 : Below w7.heap.size w7 w9 := f8.below.trans (f9.below.mono s8)
              rw [hv8, hv9]
              clear hss hv8 hv9 f8 f9 gK8
              go_wp2_with fail
              refine Calls.mono (sameStrings_eq w9 a8 a9 ss.length c8 c9 (fun k => ss.getD k ByteArray.empty) (by omega) el8 el9) ?_
              rintro e w10 ⟨rfl, m10, hw10⟩
              have b710 : Below w7.heap.size w7 w10 := by rw [hw10]; exact ⟨b79.os, b79.tape, b79.output, b79.size, b79.block⟩
              clear hw10 el8 el9 b79 hfl
              have s10 := b710.size
              obtain ⟨i0, hi3, hz0, hz1, hz2⟩ := info_parts Try.info3
              go_wp2_with (at_make; refine wpList_make_own _ rfl _ _ 33 rfl w10.heap.size 3 i0 (.int .i64 0) 1 Try.underlying33 hi3 hz0 hz1 _ _ _ (nB + 1) rfl rfl (by omega) (by rw [hz2]; omega) (by unfold maxLen; omega) (Nat.le_refl _) ?_)
              intro w11 hown11 hgr11
              have h0 : OwnInts w10.heap.size w10 w11 (.slice (some ⟨w10.heap.size, 0, none⟩) 0 (nB + 1)) (wl LK m 0) := ⟨(Below.refl _ _).grown hgr11 (Nat.le_refl _) (fun k hk => by cases hk), hgr11.size, hown11⟩
              clear hown11 hgr11
              go_wp2_with fail
              go_loopg [22, 23, 24] nB (fun g v sl t wr => ∃ r : Nat, r ≤ nB ∧ g = nB - r ∧ t = .int .i64 r ∧ sl = .int .i64 (pre LK r) ∧ OwnInts w10.heap.size w10 wr v (wl LK m r))
              case atStart => exact ⟨0, Nat.zero_le _, rfl, rfl, rfl, h0⟩
              case round =>
                obtain ⟨r, hr, rfl, rfl, rfl, hI⟩ := hrel
                clear h0
                by_cases hlt : r < nB
                · have hfl := pre_le hLK.out r (by omega)
                  have hLr := hLK.out r hlt
                  have b7r : Below w7.heap.size w7 wr := b710.trans (hI.below.mono s10)
                  have g1 : wr.cell? ⟨w.heap.size, r, none⟩ = some (.slice (AK7 r) (LK r) (LK r)) := gK.cell b7r hlt
                  have hlen := wl_length LK m r
                  obtain ⟨zs, hzs⟩ : ∃ zs, zs = wl LK m r := ⟨_, rfl⟩
                  have hlen' : zs.length ≤ 1048577 := by rw [hzs, hlen]; split <;> omega
                  rw [← hzs] at hI
                  by_cases hrm : r = m
                  · subst hrm
                    have HST : Hid (wl LK r (r + 1) = (zs ++ [(pre LK r : Int) + 128]) ++ [(pre LK r : Int) + (LK r : Int)]) := by show wl LK r (r + 1) = _; rw [hzs]; simp [wl, pre]
                    clear hzs hlen b7r
                    go_wp2_with (at_builtin; refine wpList_append_own _ rfl (.tmp 138) (.tmp 141) 33 rfl w10.heap.size 3 i0 (.int .i64 0) 1 8 Try.underlying33 hi3 hz0 hz1 hz2 rfl (by decide) _ _ _ rfl (hI.own.alloc _) ⟨wr.heap.size, 0, none⟩ 1 1 [.int .i64 ((pre LK r : Int) + 128)] rfl rfl ?c1 ?c2 ?c3 ?c4 ?c5 ?_)
                    case c1 =>
                      intro j u hj
                      match j, hj with
                      | 0, hj => simp at hj; subst hj; simp [Addr.add]
                    case c2 => intro u hu; simp at hu; subst hu; rfl
                    case c3 => unfold maxLen; omega
                    case c4 => omega
                    case c5 => have := hI.size; simp; omega
                    intro v' w12 hown' hgrow _
                    have R := hI.next hown' hgrow
                    have b7r : Below w7.heap.size w7 w12 := b710.trans (R.below.mono s10)
                    have g2 : w12.cell? ⟨w.heap.size, r, none⟩ = some (.slice (AK7 r) (LK r) (LK r)) := gK.cell b7r hlt
                    clear hown' hgrow hI g1 b7r
                    go_wp2_with (at_builtin; refine wpList_append_own _ rfl (.tmp 150) (.tmp 152) 33 rfl w10.heap.size 3 i0 (.int .i64 0) 1 8 Try.underlying33 hi3 hz0 hz1 hz2 rfl (by decide) _ _ _ rfl (R.own.alloc _) ⟨w12.heap.size, 0, none⟩ 1 1 [.int .i64 ((pre LK r : Int) + (LK r : Int))] rfl rfl ?d1 ?d2 ?d3 ?d4 ?d5 ?_)
                    case d1 =>
                      intro j u hj
                      match j, hj with
                      | 0, hj => simp at hj; subst hj; simp [Addr.add]
                    case d2 => intro u hu; simp at hu; subst hu; rfl
                    case d3 => unfold maxLen; simp; omega
                    case d4 => simp; omega
                    case d5 => have := R.size; simp; omega
                    intro v'' w13 hown' hgrow _
                    have R2 := R.next (by simpa using hown') hgrow
                    rw [← HST.out] at R2
                    clear hown' hgrow R HST g2
                    go_wp2_with fail
                    go_roundg (nB - (r + 1))
                    case measure => omega
                    case rel => exact ⟨r + 1, by omega, rfl, by go_num, by simp only [pre]; go_num, R2⟩
                  · have HST : Hid (wl LK m (r + 1) = zs ++ [(pre LK r : Int) + (LK r : Int)]) := by show wl LK m (r + 1) = _; rw [hzs]; simp [wl, pre, hrm]
                    clear hzs hlen b7r
                    go_wp2_with (at_builtin; refine wpList_append_own _ rfl (.tmp 150) (.tmp 152) 33 rfl w10.heap.size 3 i0 (.int .i64 0) 1 8 Try.underlying33 hi3 hz0 hz1 hz2 rfl (by decide) _ _ _ rfl (hI.own.alloc _) ⟨wr.heap.size, 0, none⟩ 1 1 [.int .i64 ((pre LK r : Int) + (LK r : Int))] rfl rfl ?e1 ?e2 ?e3 ?e4 ?e5 ?_)
                    case e1 =>
                      intro j u hj
                      match j, hj with
                      | 0, hj => simp at hj; subst hj; simp [Addr.add]
                    case e2 => intro u hu; simp at hu; subst hu; rfl
                    case e3 => unfold maxLen; omega
                    case e4 => omega
                    case e5 => have := hI.size; simp; omega
                    intro v'' w13 hown' hgrow _
                    have R2 := hI.next hown' hgrow
                    rw [← HST.out] at R2
                    clear hown' hgrow hI HST g1
                    go_wp2_with fail
                    go_roundg (nB - (r + 1))
                    case measure => omega
                    case rel => exact ⟨r + 1, by omega, rfl, by go_num, by simp only [pre]; go_num, R2⟩
                · obtain rfl : nB = r := by omega
                  have b7r : Below w7.heap.size w7 wr := b710.trans (hI.below.mono s10)
                  have sr := b7r.size
                  have gOr := gO.below b7r
                  go_wp2_with fail
                  refine Calls.mono (runEnds_any wr w7.heap.size _ (nB + 1) (nB + 1) AO (cutL m LK) CO _ gOr sr (by omega) hLO) ?_
                  rintro e w12 ⟨v12, rfl, f12⟩
                  rw [ends_same hm hl] at f12
                  have hlen := wl_length LK m nB
                  obtain ⟨zs, hzs⟩ : ∃ zs, zs = wl LK m nB := ⟨_, rfl⟩
                  have hlen' : zs.length ≤ 1048577 := by rw [hzs, hlen]; split <;> omega
                  rw [← hzs] at hI f12
                  obtain ⟨aw, cw, hvw, elw⟩ := owned_elts (d := (0 : Int)) hI.own f12.below
                  obtain ⟨a12, c12, hv12, el12⟩ := owned_elts (d := (0 : Int)) f12.own (Below.refl _ w12)
                  have b712 : Below w7.heap.size w7 w12 := b7r.trans (f12.below.mono sr)
                  obtain ⟨AE7, gE⟩ := h7.encs
                  obtain ⟨AB7, gB⟩ := h7.befs
                  obtain ⟨AOE, gOE⟩ := h7.outE
                  obtain ⟨AOB, gOB⟩ := h7.outB
                  rw [hv12, hvw]
                  clear hzs hlen hI f12 gOr hv12 hvw b710 b7r s10 sr s8 s9 gK gO hlt
                  go_wp2_with fail
                  refine Calls.mono (sameInts_eq w12 a12 aw zs.length c12 cw (fun k => zs.getD k 0) (by omega) el12 elw) ?_
                  rintro e w13 ⟨rfl, m13, hw13⟩
                  have b713 : Below w7.heap.size w7 w13 := by rw [hw13]; exact ⟨b712.os, b712.tape, b712.output, b712.size, b712.block⟩
                  clear hw13 el12 elw b712
                  have hfin : Below w.heap.size w w13 := h7.below.trans (b713.mono h7.below.size)
                  clear h7
                  go_wp2_with fail
                  go_loopg [25] (nB + 1) (fun g t wr => ∃ j q : Nat, j ≤ nB + 1 ∧ g = nB + 1 - j ∧ t = .int .i64 j ∧ wr = w13.drewN q)
                  case atStart => exact ⟨0, 0, Nat.zero_le _, rfl, rfl, rfl⟩
                  case round =>
                    obtain ⟨j, q, hj, rfl, rfl, rfl⟩ := hrel
                    by_cases hlt : j < nB + 1
                    · have t1 := gOE.cell b713 hlt
                      have t2 := gOB.cell b713 hlt
                      have u1 := gOE.elts b713 hlt
                      have u2 := gOB.elts b713 hlt
                      by_cases hjm : j ≤ m
                      · have t3 := gE.cell b713 (show j < nB by omega)
                        have t4 := gB.cell b713 (show j < nB by omega)
                        have u3 := gE.elts b713 (show j < nB by omega)
                        have u4 := gB.elts b713 (show j < nB by omega)
                        have lE := hLE.out j (by omega)
                        have lB := hLB.out j (by omega)
                        rw [sh_le hjm] at t1 t2 u1 u2
                        rw [sh_le hjm] at u1 u2
                        go_wp2_with fail
                        refine Calls.mono (sameBytes_eq (w13.drewN q) _ _ (LE j) _ _ (ZE j) (by omega) u1 u3) ?_
                        rintro e w14 ⟨rfl, q1, rfl⟩
                        go_wp2_with fail
                        refine Calls.mono (sameBytes_eq _ _ _ (LB j) _ _ (ZB j) (by omega) u2 u4) ?_
                        rintro e w14 ⟨rfl, q2, rfl⟩
                        go_wp2_with fail
                        go_roundg (nB + 1 - (j + 1))
                        case measure => omega
                        case rel => exact ⟨j + 1, _, by omega, rfl, by go_num, rfl⟩
                      · by_cases hj2 : j = m + 1
                        · subst hj2
                          rw [sh_new] at t1 t2
                          clear u1 u2
                          go_wp2_with fail
                          refine Calls.mono (sameBytes_eq (w13.drewN q) _ _ 0 _ _ (fun _ => 0) (by omega) (fun k hk => absurd hk (Nat.not_lt_zero k)) (fun k hk => absurd hk (Nat.not_lt_zero k))) ?_
                          rintro e w14 ⟨rfl, q1, rfl⟩
                          go_wp2_with fail
                          refine Calls.mono (sameBytes_eq _ _ _ 0 _ _ (fun _ => 0) (by omega) (fun k hk => absurd hk (Nat.not_lt_zero k)) (fun k hk => absurd hk (Nat.not_lt_zero k))) ?_
                          rintro e w14 ⟨rfl, q2, rfl⟩
                          go_wp2_with fail
                          go_roundg (nB + 1 - (m + 1 + 1))
                          case measure => omega
                          case rel => exact ⟨m + 1 + 1, _, by omega, rfl, by go_num, rfl⟩
                        · have hgt : m + 1 < j := by omega
                          have t3 := gE.cell b713 (show j - 1 < nB by omega)
                          have t4 := gB.cell b713 (show j - 1 < nB by omega)
                          have u3 := gE.elts b713 (show j - 1 < nB by omega)
                          have u4 := gB.elts b713 (show j - 1 < nB by omega)
                          have lE := hLE.out (j - 1) (by omega)
                          have lB := hLB.out (j - 1) (by omega)
                          rw [sh_gt hgt] at t1 t2 u1 u2
                          rw [sh_gt hgt] at u1 u2
                          go_wp2_with fail
                          refine Calls.mono (sameBytes_eq (w13.drewN q) _ _ (LE (j - 1)) _ _ (ZE (j - 1)) (by omega) u1 u3) ?_
                          rintro e w14 ⟨rfl, q1, rfl⟩
                          go_wp2_with fail
                          refine Calls.mono (sameBytes_eq _ _ _ (LB (j - 1)) _ _ (ZB (j - 1)) (by omega) u2 u4) ?_
                          rintro e w14 ⟨rfl, q2, rfl⟩
                          go_wp2_with fail
                          go_roundg (nB + 1 - (j + 1))
                          case measure => omega
                          case rel => exact ⟨j + 1, _, by omega, rfl, by go_num, rfl⟩
                    · obtain rfl : j = nB + 1 := by omega
                      go_wp2_with fail
                      go_ret
                      exact ⟨rfl, hfin.os, hfin.tape, hfin.output, hfin.size, hfin.block⟩
            · go_wp2_with fail
              go_ret
              exact ⟨rfl, Below.refl _ _⟩
          · have hi' : i < 0 ∨ (nB : Int) ≤ i := by omega
            rcases hi' with hi' | hi'
            · go_wp2_with fail
              go_ret
              exact ⟨rfl, Below.refl _ _⟩
            · have hi2 : ¬ i < 0 := by omega
              go_wp2_with fail
              go_ret
              exact ⟨rfl, Below.refl _ _⟩
        · have e2' : ((nB : Int) != (nE : Int)) = true := by simp; omega
          go_wp2_with fail
          go_ret
          exact ⟨rfl, Below.refl _ _⟩
      · have e1' : ((nE : Int) != (nK : Int)) = true := by simp; omega
        go_wp2_with fail
        go_ret
        exact ⟨rfl, Below.refl _ _⟩

end Go.Proofs.Qxb6618050a
