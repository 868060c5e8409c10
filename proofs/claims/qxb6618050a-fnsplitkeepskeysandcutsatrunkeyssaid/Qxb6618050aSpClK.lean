/-
  Statement 1: functions 6 and 7, cloneKeys and cloneBytes.
-/
import Derived.Test.Qxb6618050aSpClone
namespace Go.Proofs.Qxb6618050a
open Go.RowKit Go.Deep

theorem Try.info26 : (Try.prog.info? 26).map (fun i => (i.zero, i.size, i.bytes)) = some (some (.slice none 0 0), 1, 24) := by kernel_rfl
theorem Try.info36 : (Try.prog.info? 36).map (fun i => (i.zero, i.size, i.bytes)) = some (some (.slice none 0 0), 1, 24) := by kernel_rfl
theorem Try.info9 : (Try.prog.info? 9).map (fun i => (i.zero, i.size, i.bytes)) = some (some (.string ⟨#[]⟩), 1, 16) := by kernel_rfl
theorem Try.info5 : (Try.prog.info? 5).map (fun i => (i.zero, i.size, i.bytes)) = some (some (.int .u8 0), 1, 1) := by kernel_rfl

set_option maxRecDepth 100000 in
set_option maxHeartbeats 1000000 in
theorem cloneKeys_any (w : World) (a : Addr) (n cp : Nat) (A : Nat → Option Addr) (L C : Nat → Nat) (S : Nat → Nat → ByteArray)
    (hg : Grid w w.heap.size (some a) n A L C (fun j k => .string (S j k))) (hn : n ≤ 1048576) (hL : Hid (∀ j, j < n → L j ≤ 1048576)) :
    Calls Try.prog 6 #[.slice (some a) n cp] w fun e w' => e = .returned (.slice (some ⟨w.heap.size, 0, none⟩) n n) ∧ Outer w w' 26 9 n A L (fun j k => .string (S j k)) n := by
  have hmk := run_make_row' (P := Try.prog) 22 26 (.slice none 0 0) 24 Try.underlying22 Try.info26 rfl .i64 .i64 n (by omega) (by omega)
  have hq := fun w a n c n' c' => run_neq_slice_nil_any (P := Try.prog) w 26 9 a n c n' c' Try.underlying26
  have he := fun w a n c n' c' => Lib.run_eql_slice_nil (P := Try.prog) w 22 26 a n c n' c' Try.underlying22
  go_enter Try.func6, Try.ntmps6
  go_wp2_with fail
  clear hmk
  go_loopg [4] n (fun g i wr => ∃ r : Nat, r ≤ n ∧ g = n - r ∧ i = .int .i64 r ∧ Outer w wr 26 9 n A L (fun j k => .string (S j k)) r)
  case atStart => exact ⟨0, Nat.zero_le _, rfl, rfl, outer_start w 26 9 n A L _⟩
  case round =>
    obtain ⟨r, hr, rfl, rfl, hO⟩ := hrel
    by_cases hlt : r < n
    · obtain ⟨b, o, e, hb, hc⟩ := hg.row r hlt
      obtain rfl := Option.some.inj e
      have hz : (r : Int) < (n : Int) := by omega
      have hLr := hL.out r hlt
      have g0 : wr.cell? ⟨b, o + r, none⟩ = some (.slice (A r) (L r) (C r)) := by rw [hO.since.cell (p := ⟨b, o + r, none⟩) hb]; exact hc
      cases hAr : A r with
      | none =>
        obtain ⟨hl0, hc0⟩ := hg.nil r hlt hAr
        rw [hAr] at g0
        have hO' := outer_nil hO hAr hl0
        clear hAr hO
        go_wp2_with fail
        go_roundg (n - (r + 1))
        case measure => omega
        case rel => exact ⟨r + 1, by omega, rfl, by go_num, hO'⟩
      | some ar =>
        rw [hAr] at g0
        have hs : Hid ((A r).isSome = true) := by show (A r).isSome = true; rw [hAr]; rfl
        have hsize := hO.size
        have HA : Hid (A r = some ar) := hAr
        have hI0 := inner_start hO (.string ⟨#[]⟩)
        have hmk26 := run_make_row' (P := Try.prog) 26 9 (.string ⟨#[]⟩) 16 Try.underlying26 Try.info9 rfl .i64 .i64 (L r) (by omega) (by omega)
        clear hAr hO
        go_wp2_with fail
        clear hmk26 hsize g0
        go_loopg [6] (L r) (fun g i wi => ∃ c : Nat, c ≤ L r ∧ g = L r - c ∧ i = .int .i64 c ∧ Inner w wi 26 9 (.string ⟨#[]⟩) n A L (fun j k => .string (S j k)) r c)
        case atStart => exact ⟨0, Nat.zero_le _, rfl, rfl, hI0⟩
        case round =>
          obtain ⟨c, hcl, rfl, rfl, hI⟩ := hrel
          clear hI0
          rename_i wo _ _
          have g1 : wr.cell? ⟨b, o + r, none⟩ = some (.slice (some ar) (L r) (C r)) := by rw [hI.since.cell (p := ⟨b, o + r, none⟩) hb, hc, HA.out]
          by_cases hlt2 : c < L r
          · obtain ⟨b2, o2, e2, hb2, hc2⟩ := hg.elt r hlt c hlt2
            obtain rfl : ar = ⟨b2, o2, none⟩ := Option.some.inj (HA.out.symm.trans e2)
            obtain ⟨str, hstr⟩ : ∃ str, str = S r c := ⟨_, rfl⟩
            have g2 : wr.cell? ⟨b2, o2 + c, none⟩ = some (.string str) := by rw [hI.since.cell (p := ⟨b2, o2 + c, none⟩) hb2, hstr]; exact hc2
            have g3 : wr.cell? ⟨w.heap.size + 1 + cnt A r, c, none⟩ = some (.string ⟨#[]⟩) := by simpa using hI.cur.cell hlt2
            have g4 : wr.frozen? ⟨w.heap.size + 1 + cnt A r, c, none⟩ = false := hI.cur.frozen c
            have hI' := inner_step hI
            have HI : Hid (Inner w (wr.setCell ⟨w.heap.size + 1 + cnt A r, c, none⟩ (.string str)) 26 9 (.string ⟨#[]⟩) n A L (fun j k => .string (S j k)) r (c + 1)) := by rw [hstr]; exact hI'
            clear hI hI' hc2 e2 hstr hc
            go_wp2_with fail
            go_roundg (L r - (c + 1))
            case measure => omega
            case rel => exact ⟨c + 1, by omega, rfl, by go_num, HI.out⟩
          · obtain rfl : c = L r := by omega
            have g3 : wr.cell? ⟨w.heap.size, r, none⟩ = some (.slice none 0 0) := by simpa [top] using hI.top.cell hlt
            have g4 : wr.frozen? ⟨w.heap.size, r, none⟩ = false := hI.top.frozen r
            have hO' := inner_done hI hs.out
            clear hI hc
            go_wp2_with fail
            go_roundg (n - (r + 1))
            case measure => omega
            case rel => exact ⟨r + 1, by omega, rfl, by go_num, hO'⟩
    · obtain rfl : r = n := by omega
      go_wp2_with fail
      go_ret
      exact ⟨rfl, hO⟩

set_option maxRecDepth 100000 in
set_option maxHeartbeats 1000000 in
theorem cloneBytes_any (w : World) (a : Addr) (n cp : Nat) (A : Nat → Option Addr) (L C : Nat → Nat) (S : Nat → Nat → Int)
    (hg : Grid w w.heap.size (some a) n A L C (fun j k => .int .u8 (S j k))) (hn : n ≤ 1048576) (hL : Hid (∀ j, j < n → L j ≤ 1048576)) :
    Calls Try.prog 7 #[.slice (some a) n cp] w fun e w' => e = .returned (.slice (some ⟨w.heap.size, 0, none⟩) n n) ∧ Outer w w' 36 5 n A L (fun j k => .int .u8 (S j k)) n := by
  have hmk := run_make_row' (P := Try.prog) 23 36 (.slice none 0 0) 24 Try.underlying23 Try.info36 rfl .i64 .i64 n (by omega) (by omega)
  have hq := fun w a n c n' c' => run_neq_slice_nil_any (P := Try.prog) w 36 5 a n c n' c' Try.underlying36
  have he := fun w a n c n' c' => Lib.run_eql_slice_nil (P := Try.prog) w 23 36 a n c n' c' Try.underlying23
  go_enter Try.func7, Try.ntmps7
  go_wp2_with fail
  clear hmk
  go_loopg [4] n (fun g i wr => ∃ r : Nat, r ≤ n ∧ g = n - r ∧ i = .int .i64 r ∧ Outer w wr 36 5 n A L (fun j k => .int .u8 (S j k)) r)
  case atStart => exact ⟨0, Nat.zero_le _, rfl, rfl, outer_start w 36 5 n A L _⟩
  case round =>
    obtain ⟨r, hr, rfl, rfl, hO⟩ := hrel
    by_cases hlt : r < n
    · obtain ⟨b, o, e, hb, hc⟩ := hg.row r hlt
      obtain rfl := Option.some.inj e
      have hz : (r : Int) < (n : Int) := by omega
      have hLr := hL.out r hlt
      have g0 : wr.cell? ⟨b, o + r, none⟩ = some (.slice (A r) (L r) (C r)) := by rw [hO.since.cell (p := ⟨b, o + r, none⟩) hb]; exact hc
      cases hAr : A r with
      | none =>
        obtain ⟨hl0, hc0⟩ := hg.nil r hlt hAr
        rw [hAr] at g0
        have hO' := outer_nil hO hAr hl0
        clear hAr hO
        go_wp2_with fail
        go_roundg (n - (r + 1))
        case measure => omega
        case rel => exact ⟨r + 1, by omega, rfl, by go_num, hO'⟩
      | some ar =>
        rw [hAr] at g0
        have hs : Hid ((A r).isSome = true) := by show (A r).isSome = true; rw [hAr]; rfl
        have hsize := hO.size
        have HA : Hid (A r = some ar) := hAr
        have hI0 := inner_start hO (.int .u8 0)
        have hmk26 := run_make_row' (P := Try.prog) 36 5 (.int .u8 0) 1 Try.underlying36 Try.info5 rfl .i64 .i64 (L r) (by omega) (by omega)
        clear hAr hO
        go_wp2_with fail
        clear hmk26 hsize g0
        go_loopg [6] (L r) (fun g i wi => ∃ c : Nat, c ≤ L r ∧ g = L r - c ∧ i = .int .i64 c ∧ Inner w wi 36 5 (.int .u8 0) n A L (fun j k => .int .u8 (S j k)) r c)
        case atStart => exact ⟨0, Nat.zero_le _, rfl, rfl, hI0⟩
        case round =>
          obtain ⟨c, hcl, rfl, rfl, hI⟩ := hrel
          clear hI0
          rename_i wo _ _
          have g1 : wr.cell? ⟨b, o + r, none⟩ = some (.slice (some ar) (L r) (C r)) := by rw [hI.since.cell (p := ⟨b, o + r, none⟩) hb, hc, HA.out]
          by_cases hlt2 : c < L r
          · obtain ⟨b2, o2, e2, hb2, hc2⟩ := hg.elt r hlt c hlt2
            obtain rfl : ar = ⟨b2, o2, none⟩ := Option.some.inj (HA.out.symm.trans e2)
            obtain ⟨str, hstr⟩ : ∃ str, str = S r c := ⟨_, rfl⟩
            have g2 : wr.cell? ⟨b2, o2 + c, none⟩ = some (.int .u8 str) := by rw [hI.since.cell (p := ⟨b2, o2 + c, none⟩) hb2, hstr]; exact hc2
            have g3 : wr.cell? ⟨w.heap.size + 1 + cnt A r, c, none⟩ = some (.int .u8 0) := by simpa using hI.cur.cell hlt2
            have g4 : wr.frozen? ⟨w.heap.size + 1 + cnt A r, c, none⟩ = false := hI.cur.frozen c
            have hI' := inner_step hI
            have HI : Hid (Inner w (wr.setCell ⟨w.heap.size + 1 + cnt A r, c, none⟩ (.int .u8 str)) 36 5 (.int .u8 0) n A L (fun j k => .int .u8 (S j k)) r (c + 1)) := by rw [hstr]; exact hI'
            clear hI hI' hc2 e2 hstr hc
            go_wp2_with fail
            go_roundg (L r - (c + 1))
            case measure => omega
            case rel => exact ⟨c + 1, by omega, rfl, by go_num, HI.out⟩
          · obtain rfl : c = L r := by omega
            have g3 : wr.cell? ⟨w.heap.size, r, none⟩ = some (.slice none 0 0) := by simpa [top] using hI.top.cell hlt
            have g4 : wr.frozen? ⟨w.heap.size, r, none⟩ = false := hI.top.frozen r
            have hO' := inner_done hI hs.out
            clear hI hc
            go_wp2_with fail
            go_roundg (n - (r + 1))
            case measure => omega
            case rel => exact ⟨r + 1, by omega, rfl, by go_num, hO'⟩
    · obtain rfl : r = n := by omega
      go_wp2_with fail
      go_ret
      exact ⟨rfl, hO⟩

end Go.Proofs.Qxb6618050a
