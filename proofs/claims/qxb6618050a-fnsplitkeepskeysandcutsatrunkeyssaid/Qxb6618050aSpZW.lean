/-
  Statement 1: function 8, ZZSplit: the walk.
-/
import Derived.Test.Qxb6618050aSpZZ
import Derived.BigRegion
namespace Go.Proofs.Qxb6618050a
open Go.RowKit Go.Deep

/-- What ZZSplit leaves: the three slices handed out, from block M on. -/
structure ZZPost (w w' : World) (n i bi Li : Nat) (f : Nat → Value) (S : Nat → ByteArray) (M : Nat) (au : Option Addr) (cu : Nat) : Prop where
  new : w.heap.size ≤ M
  k : w'.rowIs M 26 (n + 1) (fun x => fin f i bi Li au cu (3 * x))
  e : w'.rowIs (M + 1) 36 (n + 1) (fun x => fin f i bi Li au cu (3 * x + 1))
  b : w'.rowIs (M + 2) 36 (n + 1) (fun x => fin f i bi Li au cu (3 * x + 2))
  upper : ∀ k, k < Li - 128 → ∃ b, au = some ⟨b, 0, none⟩ ∧ b < w'.heap.size ∧ w'.cell? ⟨b, k, none⟩ = some (.string (S (128 + k)))
  unil : au = none → Li - 128 = 0 ∧ cu = 0
  low : ∀ k, k < 128 → w'.cell? ⟨bi, k, none⟩ = some (.string (S k))
  same : ∀ b, b < w.heap.size → b ≠ bi → w'.heap[b]? = w.heap[b]?
  os : w'.os = w.os
  tape : w'.tape = w.tape
  output : w'.output = w.output
  size : w.heap.size ≤ w'.heap.size

theorem zz_end {w wf w1 wr : World} {n i bi Li g cap cu : Nat} {first : Int} {root : ByteArray} {f : Nat → Value} {S : Nat → ByteArray} {au : Option Addr} (hF : Fill w wf n first root f n)
    (hS : SplitPost wf w1 (w.heap.size + 1) w.heap.size bi n i Li first root f S g cap au cu) (hO : Out w1 wr (n + 1) (fin f i bi Li au cu) (n + 1)) (hbi' : bi < w1.heap.size) (m : Nat) : ZZPost w (wr.drewN m) n i bi Li f S w1.heap.size au cu := by
  have hsz := hF.size
  have hsz1 := hS.size
  have hszr := hO.size
  exact ⟨by omega, hO.k.congr (fun x hx => by rw [if_pos hx]), hO.e.congr (fun x hx => by rw [if_pos hx]), hO.b.congr (fun x hx => by rw [if_pos hx]),
    fun k hk => by
      obtain ⟨b, e, _, h2, h3⟩ := hS.upper k hk
      exact ⟨b, e, by show b < wr.heap.size; omega, by show wr.cell? _ = _; rw [hO.below.cell (p := ⟨b, k, none⟩) h2]; exact h3⟩,
    hS.unil,
    fun k hk => by show wr.cell? _ = _; rw [hO.below.cell (p := ⟨bi, k, none⟩) hbi']; exact hS.low k hk,
    fun b h1 h2 => (hO.below.block b (by omega)).trans ((hS.same b (by omega) (by omega) (by omega) h2).trans (hF.below.block b h1)),
    hO.below.os.trans (hS.os.trans hF.below.os), hO.below.tape.trans (hS.tape.trans hF.below.tape), hO.below.output.trans (hS.output.trans hF.below.output), by show w.heap.size ≤ wr.heap.size; omega⟩

theorem fin_slice {f : Nat → Value} (hf : ∀ m, ∃ a l c, f m = .slice a l c) (i bi Li : Nat) (au : Option Addr) (cu m : Nat) : ∃ a l c, fin f i bi Li au cu m = .slice a l c := by
  unfold fin
  split
  · exact hf m
  split
  · exact ⟨_, _, _, rfl⟩
  split
  · exact hf m
  split
  · exact ⟨_, _, _, rfl⟩
  split
  · exact ⟨_, _, _, rfl⟩
  · exact hf _

theorem run_make_runs (n : Nat) (hn : n ≤ 1048576) (W : World) : (Instr.makeSlice 39 (.int .i64 (n : Int)) (.int .i64 (n : Int))).run Try.prog W = .ok (.slice (some ⟨W.heap.size, 0, none⟩) n n) (W.alloc (.cells (madeCells #[.slice none 0 0, .slice none 0 0, .slice none 0 0] (n * 3)) 43)) := by
  obtain ⟨i43, h1, h2, h3, h4⟩ := info_parts Try.info43
  have h := run_make (P := Try.prog) W 39 43 i43 _ Try.underlying39 h1 h2 .i64 .i64 (n : Int) (n : Int) (by omega) (Int.le_refl _) (by rw [h4]; omega) (by omega)
  rw [h3] at h
  exact h

set_option maxRecDepth 100000 in
set_option maxHeartbeats 1000000 in
theorem zzsplit_any (w : World) (gK gE gB n i bi : Nat) (AK AE AB : Nat → Option Addr) (LK LE LB : Nat → Nat) (S : Nat → ByteArray) (first : Int) (root : ByteArray)
    (hK : w.rowIs gK 26 n (fun j => .slice (AK j) (LK j) (LK j))) (hE : w.rowIs gE 36 n (fun j => .slice (AE j) (LE j) (LE j))) (hB : w.rowIs gB 36 n (fun j => .slice (AB j) (LB j) (LB j)))
    (hAi : Hid (AK i = some ⟨bi, 0, none⟩)) (hk : w.rowIs bi 9 (LK i) (fun k => .string (S k))) (hi : i < n) (hn : n ≤ 1048576) (hl : 128 ≤ LK i) (hl2 : LK i ≤ 1048576) :
    Calls Try.prog 8 #[.slice (some ⟨gK, 0, none⟩) n n, .slice (some ⟨gE, 0, none⟩) n n, .slice (some ⟨gB, 0, none⟩) n n, .int .i64 first, .string root, .int .i64 i] w fun e w' =>
      ∃ M au cu, e = .returned (.tuple #[.slice (some ⟨M, 0, none⟩) (n + 1) (n + 1), .slice (some ⟨M + 1, 0, none⟩) (n + 1) (n + 1), .slice (some ⟨M + 2, 0, none⟩) (n + 1) (n + 1), .int .i64 first, .string root]) ∧
        ZZPost w w' n i bi (LK i) (runCell (fun j => .slice (AK j) (LK j) (LK j)) (fun j => .slice (AE j) (LE j) (LE j)) (fun j => .slice (AB j) (LB j) (LB j))) S M au cu := by
  have hmk := run_make_runs n hn
  have lK := hK.lt
  have lE := hE.lt
  have lB := hB.lt
  have lbi := hk.lt
  obtain ⟨f, hf⟩ : ∃ f, f = runCell (fun j => .slice (AK j) (LK j) (LK j)) (fun j => .slice (AE j) (LE j) (LE j)) (fun j => .slice (AB j) (LB j) (LB j)) := ⟨_, rfl⟩
  have HF : Hid (f = runCell (fun j => .slice (AK j) (LK j) (LK j)) (fun j => .slice (AE j) (LE j) (LE j)) (fun j => .slice (AB j) (LB j) (LB j))) := hf
  rw [← hf]
  clear hf
  have h0 := fill_start w n first root f
  go_enter Try.func8, Try.ntmps8
  go_wp2_with fail
  clear hmk
  go_loopg [18] n (fun g s wr => ∃ j : Nat, j ≤ n ∧ g = n - j ∧ s = .int .i64 j ∧ Fill w wr n first root f j)
  case atStart => exact ⟨0, Nat.zero_le _, rfl, rfl, h0⟩
  case round =>
    obtain ⟨j, hj, rfl, rfl, hF⟩ := hrel
    clear h0
    by_cases hlt : j < n
    · have c0 : wr.cell? ⟨w.heap.size + 1, 0, none⟩ = some (.slice (some ⟨w.heap.size, 0, none⟩) n n) := by simpa [topCell] using hF.top.cell (i := 0) (by omega)
      have c1 : wr.cell? ⟨gK, j, none⟩ = some (.slice (AK j) (LK j) (LK j)) := by rw [hF.below.cell (p := ⟨gK, j, none⟩) lK]; exact hK.cell hlt
      have c2 : wr.cell? ⟨gE, j, none⟩ = some (.slice (AE j) (LE j) (LE j)) := by rw [hF.below.cell (p := ⟨gE, j, none⟩) lE]; exact hE.cell hlt
      have c3 : wr.cell? ⟨gB, j, none⟩ = some (.slice (AB j) (LB j) (LB j)) := by rw [hF.below.cell (p := ⟨gB, j, none⟩) lB]; exact hB.cell hlt
      have c4 := hF.runs.cell (i := j * 3) (by omega)
      have c5 := hF.runs.cell (i := j * 3 + 1) (by omega)
      have c6 := hF.runs.cell (i := j * 3 + 2) (by omega)
      rw [if_neg (by omega)] at c4 c5 c6
      have c7 := hF.runs.frozen (j * 3)
      have c8 := hF.runs.frozen (j * 3 + 1)
      have c9 := hF.runs.frozen (j * 3 + 2)
      have hF' : Fill w (((wr.setCell ⟨w.heap.size, j * 3, none⟩ (.slice (AK j) (LK j) (LK j))).setCell ⟨w.heap.size, j * 3 + 1, none⟩ (.slice (AE j) (LE j) (LE j))).setCell ⟨w.heap.size, j * 3 + 2, none⟩ (.slice (AB j) (LB j) (LB j))).drew n first root f (j + 1) := by
        have hF2 : Fill w wr n first root (runCell (fun j => .slice (AK j) (LK j) (LK j)) (fun j => .slice (AE j) (LE j) (LE j)) (fun j => .slice (AB j) (LB j) (LB j))) j := HF.out ▸ hF
        have hF3 := fill_step hF2
        rw [← HF.out] at hF3
        exact hF3
      clear hF
      go_wp2_with fail
      go_big_region
      all_goals
        go_wp2_with fail
        go_roundg (n - (j + 1))
        case measure => omega
        case rel => exact ⟨j + 1, by omega, rfl, by go_num, hF'⟩
    · obtain rfl : n = j := by omega
      have hrun := fill_done hF
      have hf3 : f (3 * i) = .slice (some ⟨bi, 0, none⟩) (LK i) (LK i) := by rw [HF.out, runCell_k, hAi.out]
      have hone : ∀ m, m < 3 * n → (f m).oneCell' = true := fun m _ => by
        rw [HF.out, runCell]
        split
        · rfl
        · split <;> rfl
      have hkr : wr.rowIs bi 9 (LK i) (fun k => .string (S k)) := hk.of_block (hF.below.block bi lbi)
      have hcall := split_any wr (w.heap.size + 1) w.heap.size bi n i (LK i) first root f S hF.top hrun hf3 hkr hone hi hn hl hl2 (by omega) (by omega) (by omega)
      have HC := Aside.out (p := Aside _) hcall
      have hfs : Hid (∀ m, ∃ a l c, f m = .slice a l c) := by
        show ∀ m, ∃ a l c, f m = .slice a l c
        intro m
        rw [HF.out, runCell]
        split
        · exact ⟨_, _, _, rfl⟩
        split
        · exact ⟨_, _, _, rfl⟩
        · exact ⟨_, _, _, rfl⟩
      clear hcall hone hf3 hkr hrun
      go_wp2_with fail
      refine Calls.mono HC.out ?_
      rintro e w1 ⟨rfl, g, cap, au, cu, hS⟩
      clear HC
      have hsz := hF.size
      have hsz1 := hS.size
      have z0 : w.heap.size + 1 < w1.heap.size := by omega
      have z1 : w.heap.size + 1 < w1.heap.size + 1 := by omega
      have zg := hS.lt
      have q0 : w1.cell? ⟨w.heap.size + 1, 0, none⟩ = some (.slice (some ⟨g, 0, none⟩) (n + 1) cap) := by simpa using hS.top.cell (i := 0) (by omega)
      have e1 : ((n + 1 : Nat) : Int) = (n : Int) + 1 := by omega
      have mk1 := run_make_row' (P := Try.prog) 22 26 (.slice none 0 0) 24 Try.underlying22 Try.info26 rfl .i64 .i64 (n + 1) (by omega) (by omega)
      have mk2 := run_make_row' (P := Try.prog) 23 36 (.slice none 0 0) 24 Try.underlying23 Try.info36 rfl .i64 .i64 (n + 1) (by omega) (by omega)
      rw [e1] at mk1 mk2
      clear e1 hsz hsz1
      have hO0 := out_start w1 (n + 1) (fin f i bi (LK i) au cu)
      go_wp2_with fail
      clear mk1 mk2 z1
      go_loopg [22] (n + 1) (fun gk s wo => ∃ j : Nat, j ≤ n + 1 ∧ gk = n + 1 - j ∧ s = .int .i64 j ∧ Out w1 wo (n + 1) (fin f i bi (LK i) au cu) j)
      case atStart => exact ⟨0, Nat.zero_le _, rfl, rfl, hO0⟩
      case round =>
        obtain ⟨j, hj, rfl, rfl, hO⟩ := hrel
        clear hO0
        rename_i wf _ _
        have q0' : wr.cell? ⟨w.heap.size + 1, 0, none⟩ = some (.slice (some ⟨g, 0, none⟩) (n + 1) cap) := by rw [hO.below.cell (p := ⟨w.heap.size + 1, 0, none⟩) z0]; exact q0
        by_cases hlt : j < n + 1
        · have zj : (j : Int) < (n : Int) + 1 := by omega
          obtain ⟨a0, l0, c0, hv0⟩ := fin_slice hfs.out i bi (LK i) au cu (3 * j)
          obtain ⟨a1, l1, c1, hv1⟩ := fin_slice hfs.out i bi (LK i) au cu (3 * j + 1)
          obtain ⟨a2, l2, c2, hv2⟩ := fin_slice hfs.out i bi (LK i) au cu (3 * j + 2)
          have t0 : wr.cell? ⟨g, j * 3, none⟩ = some (.slice a0 l0 c0) := by rw [hO.below.cell (p := ⟨g, j * 3, none⟩) zg, ← hv0, Nat.mul_comm j 3]; exact hS.row (3 * j) (by omega)
          have t1 : wr.cell? ⟨g, j * 3 + 1, none⟩ = some (.slice a1 l1 c1) := by rw [hO.below.cell (p := ⟨g, j * 3 + 1, none⟩) zg, ← hv1, Nat.mul_comm j 3]; exact hS.row (3 * j + 1) (by omega)
          have t2 : wr.cell? ⟨g, j * 3 + 2, none⟩ = some (.slice a2 l2 c2) := by rw [hO.below.cell (p := ⟨g, j * 3 + 2, none⟩) zg, ← hv2, Nat.mul_comm j 3]; exact hS.row (3 * j + 2) (by omega)
          have s0 : wr.cell? ⟨w1.heap.size, j, none⟩ = some (.slice none 0 0) := by simpa using hO.k.cell hlt
          have s1 : wr.cell? ⟨w1.heap.size + 1, j, none⟩ = some (.slice none 0 0) := by simpa using hO.e.cell hlt
          have s2 : wr.cell? ⟨w1.heap.size + 1 + 1, j, none⟩ = some (.slice none 0 0) := by simpa using hO.b.cell hlt
          have r0 : wr.frozen? ⟨w1.heap.size, j, none⟩ = false := hO.k.frozen j
          have r1 : wr.frozen? ⟨w1.heap.size + 1, j, none⟩ = false := hO.e.frozen j
          have r2 : wr.frozen? ⟨w1.heap.size + 1 + 1, j, none⟩ = false := hO.b.frozen j
          have hO' := out_step hO
          rw [hv0, hv1, hv2] at hO'
          clear hv0 hv1 hv2 hO
          go_wp2_with fail
          go_roundg (n + 1 - (j + 1))
          case measure => omega
          case rel => exact ⟨j + 1, by omega, rfl, by go_num, hO'⟩
        · obtain rfl : j = n + 1 := by omega
          have q1 : wr.cell? ⟨w.heap.size + 1, 1, none⟩ = some (.int .i64 first) := by rw [hO.below.cell (p := ⟨w.heap.size + 1, 1, none⟩) z0]; simpa using hS.top.cell (i := 1) (by omega)
          have q2 : wr.cell? ⟨w.heap.size + 1, 2, none⟩ = some (.string root) := by rw [hO.below.cell (p := ⟨w.heap.size + 1, 2, none⟩) z0]; simpa using hS.top.cell (i := 2) (by omega)
          have hend := zz_end hF hS hO (by omega)
          clear hO
          go_wp2_with fail
          go_big_region
          all_goals
            try go_wp2_with fail
            exact bodyPost_ret (v := .tuple #[.slice (some ⟨w1.heap.size, 0, none⟩) (n + 1) (n + 1), .slice (some ⟨w1.heap.size + 1, 0, none⟩) (n + 1) (n + 1), .slice (some ⟨w1.heap.size + 2, 0, none⟩) (n + 1) (n + 1), .int .i64 first, .string root]) (by simp [results, Try.results8, go_sem]) rfl ⟨w1.heap.size, au, cu, rfl, hend 1⟩

end Go.Proofs.Qxb6618050a
