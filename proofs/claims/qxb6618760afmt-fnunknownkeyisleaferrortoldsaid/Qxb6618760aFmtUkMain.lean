/-
  Statement 2 (FnUnknownKeyIsLeafError): function 4, its three ways.
-/
import Derived.Test.Qxb6618760aFmtUkWalks
import Derived.Deep.OwnRows
namespace Go.Proofs.Qxb6618760aFmt
open Go.RowKit Go.Extern.Stop Go.Stop Go.Extern Go.Deep

theorem Tryf.info5 : (Tryf.prog.info? 5).map (fun i => (i.zero, i.size, i.bytes)) = some (some (.int .u8 0), 1, 1) := by kernel_rfl
theorem Tryf.size5 : (Tryf.prog.info? 5).map (·.size) = some 1 := by kernel_rfl

set_option maxHeartbeats 400000 in
theorem fn4_long (ao : Option Addr) (len cap : Nat) (w : World) (hl : 1048576 < len) (hm : len ≤ 9223372036854775807) :
    Calls Tryf.prog 4 #[.slice ao len cap] w fun e w' => e = .returned (.bool true) ∧ w' = w := by
  go_enter Tryf.func4, Tryf.ntmps4
  go_wp2
  go_ret
  exact ⟨rfl, rfl⟩

theorem Tryf.noPath (a : Addr) (w : World) : (Instr.typeAssert (.iface 42 (.pointer (some a))) 26 29 true).run Tryf.prog w = .ok (.tuple #[.pointer none, .bool false]) w := by kernel_rfl
attribute [local go_sem] Tryf.noPath

set_option maxHeartbeats 400000 in
theorem fn4_nil (F : Interp) (w : World) (hF : F.answers w.tape) :
    Calls Tryf.prog 4 #[.slice none 0 0] w fun e w' => e = .returned (.bool true) ∧ Below w.heap.size w w' := by
  have hn := fun w a n c n' c' => run_neq_slice_nil_any (P := Tryf.prog) w 22 5 a n c n' c' Tryf.underlying22
  go_enter Tryf.func4, Tryf.ntmps4
  go_wp2_with (first | (go_at_call 13; refine (unk_nil F _ (by exact hF)).mono ?_; rintro e w' ⟨a, rfl, hb⟩) | go_in)
  go_ret
  exact ⟨rfl, by assumption⟩

set_option maxHeartbeats 400000 in
theorem fn4_some (F : Interp) (a : Addr) (cap : Nat) (xs : List Int) (w : World) (hF : F.answers w.tape) (hl : xs.length ≤ 1048576)
    (hc : ∀ j v, (xs.map (Value.int .u8))[j]? = some v → w.cell? (a.add j) = some v) :
    Calls Tryf.prog 4 #[.slice (some a) xs.length cap] w fun e w' => e = .returned (.bool true) ∧ Below w.heap.size w w' := by
  have hn := fun w a n c n' c' => run_neq_slice_nil_any (P := Tryf.prog) w 22 5 a n c n' c' Tryf.underlying22
  have hmk := run_make_row' (P := Tryf.prog) 22 5 (.int .u8 0) 1 Tryf.underlying22 Tryf.info5 rfl .i64 .i64 xs.length (by omega) (by omega)
  have hcp := run_copy_row (P := Tryf.prog) (w.alloc (.cells (madeCells #[.int .u8 0] xs.length) 5)) 22 22 3 5 w.heap.size 0 xs.length xs.length a xs.length cap (madeCells #[.int .u8 0] xs.length) 5 (xs.map (Value.int .u8))
    Tryf.underlying22 Tryf.size5 (blk_alloc_new _ _) (by simp) (fun j v hj => cell_later ((Below.refl _ w).alloc (Nat.le_refl _) _) (hc j v hj)) (by simp [size_madeCells]) (ints_oneCell _ _)
  obtain ⟨w1, hw1⟩ : ∃ w1, w1 = (w.alloc (.cells (madeCells #[.int .u8 0] xs.length) 5)).setRow w.heap.size ((madeCells #[.int .u8 0] xs.length).toList.take 0 ++ xs.map (Value.int .u8) ++ (madeCells #[.int .u8 0] xs.length).toList.drop (0 + (xs.map (Value.int .u8)).length)).toArray := ⟨_, rfl⟩
  rw [← hw1] at hcp
  have hb1 : Below w.heap.size w w1 := by
    rw [hw1]
    exact below_setRow ((Below.refl _ w).alloc (Nat.le_refl _) _) (Nat.le_refl _) _
  have hc1 : ∀ j v, (xs.map (Value.int .u8))[j]? = some v → w1.cell? ((⟨w.heap.size, 0, none⟩ : Addr).add j) = some v := by
    intro j v hj
    have hz : (madeCells #[Value.int .u8 0] xs.length).toList.drop (0 + (xs.map (Value.int .u8)).length) = [] := by
      apply List.drop_eq_nil_of_le
      simp [size_madeCells]
    rw [hw1, Addr.add_lit, cell_setRow_same _ _ _ _ _ _ _ (blk_alloc_new _ _), hz]
    simpa using hj
  clear hw1
  have hs1 := hb1.size
  have HF : F.answers w1.tape := by rw [hb1.tape]; exact hF
  go_enter Tryf.func4, Tryf.ntmps4
  go_wp2_with (first | (go_at_call 13; refine (unk_some F _ _ xs _ (by exact HF) hc1).mono ?_; rintro e w' ⟨a, rfl, hb⟩) | go_in)
  go_ret
  rename_i hb
  exact ⟨rfl, hb1.trans (hb.mono hs1)⟩

end Go.Proofs.Qxb6618760aFmt
