/-
  Statements 4 and 5: function 27, (*nodeSet).add, an empty set that becomes an array; and all cases together.
-/
import Derived.Test.Qxb6619590aGrConv
namespace Go.Proofs.Qxb6619590a
open Go.RowKit Go.Deep Go.Maps

set_option maxRecDepth 100000 in
set_option maxHeartbeats 2000000 in
theorem add_convf (w : World) (br bg n wk : Nat) (M H : Nat → Bool) (k : Nat) (inn : Bool) (vn : Value) (aN : Option Addr) (hk : k < n) (hN : n < 8)
    (c0 : w.cell? ⟨bg, 0, none⟩ = some (.slice aN n n)) (hMH : ∀ k, H k = true → M k = true)
    (hbr : w.rowIs br 67 5 (rcell vn (.map none) (.slice none 0 0) 0 wk)) (hno : ∀ k, k < n → M k = false ∧ H k = false) :
    Calls Try.prog 27 #[.pointer (some ⟨br, 1, none⟩), .pointer (some ⟨bg, 0, none⟩), .int .i32 (k : Int), .bool inn] w fun e w' => e = .returned (.tuple #[]) ∧ AddIs w br n 0 wk M H k inn vn w' := by
  have hq := fun w a n c n' c' => run_neq_slice_nil_any (P := Try.prog) w 59 64 a n c n' c' Try.underlying59
  have he := fun w a n c n' c' => Lib.run_eql_slice_nil (P := Try.prog) w 59 64 a n c n' c' Try.underlying59
  have hmk := run_make_row' (P := Try.prog) 59 64 (.int .u8 0) 1 Try.underlying59 Try.info64 rfl .i64 .i64 n (by omega) (by omega)
  have c1 : w.cell? ⟨br, 1, none⟩ = some (.map none) := hbr.cell (by decide)
  have c2 : w.cell? ⟨br, 2, none⟩ = some (.slice none 0 0) := hbr.cell (by decide)
  have c3 : w.cell? ⟨br, 3, none⟩ = some (.int .i64 0) := hbr.cell (by decide)
  have f2 : w.frozen? ⟨br, 2, none⟩ = false := hbr.frozen 2
  have f1 : w.frozen? ⟨br, 1, none⟩ = false := hbr.frozen 1
  have f3 : w.frozen? ⟨br, 3, none⟩ = false := hbr.frozen 3
  have hlt := hbr.lt
  have hN3 : (n : Int) < 8 := by omega
  have hkn : (k : Int) < n := by omega
  have hM := (hno k hk).1
  have hH := (hno k hk).2
  go_enter Try.func27, Try.ntmps27
  go_wp2_with fail
  go_quiet (fail)
  have g2 : ((w.drewN nq).alloc (.cells (madeCells #[.int .u8 0] n) 64)).cell? ⟨br, 2, none⟩ = some (.slice none 0 0) := by rw [World.cell?_alloc_old _ _ _ (Nat.ne_of_lt hlt)]; exact c2
  have g2' : ((w.drewN nq).alloc (.cells (madeCells #[.int .u8 0] n) 64)).frozen? ⟨br, 2, none⟩ = false := (World.rowIs.alloc (w := w.drewN nq) hbr _).frozen 2
  have g1 : ((w.drewN nq).alloc (.cells (madeCells #[.int .u8 0] n) 64)).cell? ⟨br, 1, none⟩ = some (.map none) := by rw [World.cell?_alloc_old _ _ _ (Nat.ne_of_lt hlt)]; exact c1
  obtain ⟨hnb, hb, hr1, hl, hrr⟩ := made_facts nq (n := n) hbr
  have hrg := run_range_nilMap (P := Try.prog) (madeAt w nq br n) 58 21 4 Try.underlying58
  have hnx : ∀ ty, (Instr.next (.pointer (some ⟨(madeAt w nq br n).heap.size, 0, none⟩)) false ty).run Try.prog ((madeAt w nq br n).alloc (.mapIter none 0 #[] 0)) = _ := fun ty => run_next_nilMap _ ty 0 0 #[]
  rw [hnb] at hrg hnx
  have hcv : Conv w ((madeAt w nq br n).alloc (.mapIter none 0 #[] 0)) br n 0 wk M H vn (.map none) w.heap.size :=
    ⟨hb.alloc (by rw [hnb]; omega) _, hl.alloc _, hrr.alloc _, by omega, (hr1.alloc _).congr (fun j hj => by rw [(hno j hj).1, (hno j hj).2]; rfl)⟩
  obtain ⟨wz, hwz⟩ : ∃ wz, wz = (madeAt w nq br n).alloc (.mapIter none 0 #[] 0) := ⟨_, rfl⟩
  rw [← hwz] at hrg hnx hcv
  unfold madeAt at hrg
  clear hwz hnb hb hr1 hl hrr hno
  go_wp2_with fail
  clear hrg g1 g2 g2' hmk c1 c2 c3 f1 f2 f3 hbr
  have hcw := hcv.nil
  have hm := hcw.met (by omega) hMH hk
  have hne' := hcw.ne
  have d1 : wz.cell? ⟨br, 1, none⟩ = some (.map none) := hcv.row.cell (by decide)
  have d2 : wz.cell? ⟨br, 2, none⟩ = some (.slice (some ⟨w.heap.size, 0, none⟩) n n) := hcv.row.cell (by decide)
  have d3 : wz.cell? ⟨br, 3, none⟩ = some (.int .i64 0) := hcv.row.cell (by decide)
  have e1 : wz.frozen? ⟨br, 1, none⟩ = false := hcv.row.frozen 1
  have e3 : wz.frozen? ⟨br, 3, none⟩ = false := hcv.row.frozen 3
  have ek : wz.frozen? ⟨w.heap.size, k, none⟩ = false := hcv.set.frozen k
  have dk : wz.cell? ⟨w.heap.size, k, none⟩ = some (.int .u8 0) := by have := hcv.set.cell hk; rw [hM, hH] at this; exact this
  have hfin := hcw.fin_f (k := k) hM inn
  rw [hM] at hm
  rw [hH, Bool.false_or] at hfin
  clear hcv hcw hM hH
  refine wp_loop_rounds 1 ?_
  rw [rounds_succ]
  go_wp2_with fail
  refine Calls.mono hm ?_
  rintro e w1 ⟨rfl, rfl⟩
  clear hm
  cases inn with
  | true =>
    go_wp2_with fail
    go_end0
    exact ⟨rfl, hfin⟩
  | false =>
    go_wp2_with fail
    go_big_region
    go_wp2_with fail
    go_end0
    exact ⟨rfl, hfin.drew⟩

/-- add, whatever the set is. -/
theorem add_any (w : World) (br bg n N wk : Nat) (M H : Nat → Bool) (k : Nat) (inn : Bool) (vn few many : Value) (aN : Option Addr) (hn : n ≤ 262144) (hk : k < n) (hN : N ≤ n) (hMH : ∀ k, H k = true → M k = true)
    (c0 : w.cell? ⟨bg, 0, none⟩ = some (.slice aN n n)) (hbgr : bg < br) (hbr : w.rowIs br 67 5 (rcell vn few many N wk)) (hs : SetIs w (· < br) n N M H few many) :
    Calls Try.prog 27 #[.pointer (some ⟨br, 1, none⟩), .pointer (some ⟨bg, 0, none⟩), .int .i32 (k : Int), .bool inn] w fun e w' => e = .returned (.tuple #[]) ∧ AddIs w br n N wk M H k inn vn w' := by
  cases hs with
  | fresh h0 hN0 =>
    subst hN0
    by_cases h8 : n < 8
    · exact add_convf w br bg n wk M H k inn vn aN hk h8 c0 hMH hbr h0
    · exact add_fresh w br bg n wk M H k inn vn aN hn hk (by omega) hMH c0 hbr h0
  | few bm D hF hown hD =>
    by_cases h8 : n < (N + 1) * 8
    · exact add_conv w br bg n N wk M H k inn vn aN bm D hn hk h8 hN hMH c0 hbgr hbr hown hD
    · exact add_few w br bg n N wk M H k inn vn aN bm D hn hk (by omega) hMH c0 hbr (by omega) hown hD
  | many bs hF hrow => exact add_many w br bg n N wk M H k inn vn bs hn hk hN hMH hbr (by omega) hrow

end Go.Proofs.Qxb6619590a
