/-
  Statements 4 and 5: the small functions: cloneI32, numberIn, ZZNewReach, ZZGrow, ZZReachNodes, ZZReachWalked, ZZReachSet, ZZNodeSetN, ZZMet, ZZHolds.
-/
import Derived.Test.Qxb6619590aGrGrow
namespace Go.Proofs.Qxb6619590a
open Go.RowKit Go.Deep Go.Maps

theorem Ints.mono {w : World} {G G' : Nat → Prop} {ao : Option Addr} {n : Nat} {f : Nat → Int} (h : Ints w G ao n f) (hG : ∀ b, G b → G' b) : Ints w G' ao n f := fun i hi => by
  obtain ⟨b, o, e, hg, hc⟩ := h i hi
  exact ⟨b, o, e, hG b hg, hc⟩
theorem Ints.below {w w' : World} {B : Nat} {ao : Option Addr} {n : Nat} {f : Nat → Int} (h : Ints w (· < B) ao n f) (hb : Below B w w') : Ints w' (· < B) ao n f := h.kept (Kept.of_below hb)
theorem Ints.congr {w : World} {G : Nat → Prop} {ao : Option Addr} {n : Nat} {f f' : Nat → Int} (h : Ints w G ao n f) (e : ∀ i, i < n → f i = f' i) : Ints w G ao n f' := fun i hi => by
  obtain ⟨b, o, e', hg, hc⟩ := h i hi
  exact ⟨b, o, e', hg, by rw [← e i hi]; exact hc⟩

theorem nodeSetN_any {w : World} {g : GA} {br : Nat} {rn : List Nat} {S : Nat → Bool} {wk : Nat} {vn few many : Value} (h : RS w g br rn S wk vn few many) :
    Calls Try.prog 11 #[.pointer (some ⟨br, 1, none⟩)] w fun e w' => e = .returned (.int .i64 (cnt (mm rn S) g.n : Int)) ∧ w' = w := by
  have c : w.cell? ⟨br, 3, none⟩ = some (.int .i64 (cnt (mm rn S) g.n : Int)) := h.row.cell (by decide)
  go_enter Try.func11, Try.ntmps11
  go_wp2_with fail
  go_ret
  exact ⟨rfl, rfl⟩

theorem reachNodes_any {w : World} {g : GA} {br : Nat} {rn : List Nat} {S : Nat → Bool} {wk : Nat} {vn few many : Value} (h : RS w g br rn S wk vn few many) :
    Calls Try.prog 31 #[.pointer (some ⟨br, 0, none⟩)] w fun e w' => e = .returned vn ∧ w' = w := by
  have c : w.cell? ⟨br, 0, none⟩ = some vn := h.row.cell (by decide)
  go_enter Try.func31, Try.ntmps31
  go_wp2_with fail
  go_ret
  exact ⟨rfl, rfl⟩

theorem reachWalked_any {w : World} {g : GA} {br : Nat} {rn : List Nat} {S : Nat → Bool} {wk : Nat} {vn few many : Value} (h : RS w g br rn S wk vn few many) :
    Calls Try.prog 25 #[.pointer (some ⟨br, 0, none⟩)] w fun e w' => e = .returned (.int .i64 (wk : Int)) ∧ w' = w := by
  have c : w.cell? ⟨br, 4, none⟩ = some (.int .i64 (wk : Int)) := h.row.cell (by decide)
  go_enter Try.func25, Try.ntmps25
  go_wp2_with fail
  go_ret
  exact ⟨rfl, rfl⟩

theorem reachSet_any (w : World) (br : Nat) :
    Calls Try.prog 32 #[.pointer (some ⟨br, 0, none⟩)] w fun e w' => e = .returned (.pointer (some ⟨br, 1, none⟩)) ∧ w' = w := by
  go_enter Try.func32, Try.ntmps32
  go_wp2_with fail
  go_ret
  exact ⟨rfl, rfl⟩

theorem zzMet_any {w : World} {g : GA} {br : Nat} {rn : List Nat} {S : Nat → Bool} {wk : Nat} {vn few many : Value} (h : RS w g br rn S wk vn few many) (hn : g.n ≤ 262144) {k : Nat} (hk : k < g.n) :
    Calls Try.prog 12 #[.pointer (some ⟨br, 1, none⟩), .int .i32 (k : Int)] w fun e w' => e = .returned (.bool (mm rn S k)) ∧ w' = w := by
  have hm := met_any w h.set (by omega) (fun j hj => by simp only [mm]; simp only [hh] at hj; rw [hj]; rfl) hk br (h.row.cell (by decide)) (h.row.cell (by decide))
  go_enter Try.func12, Try.ntmps12
  go_wp2_with fail
  refine Calls.mono hm ?_
  rintro e w1 ⟨rfl, rfl⟩
  go_wp2_with fail
  go_ret
  exact ⟨rfl, rfl⟩

theorem zzHolds_any {w : World} {g : GA} {br : Nat} {rn : List Nat} {S : Nat → Bool} {wk : Nat} {vn few many : Value} (h : RS w g br rn S wk vn few many) (hn : g.n ≤ 262144) {k : Nat} (hk : k < g.n) :
    Calls Try.prog 13 #[.pointer (some ⟨br, 1, none⟩), .int .i32 (k : Int)] w fun e w' => e = .returned (.bool (hh rn k)) ∧ w' = w := by
  have hm := holds_any w h.set (by omega) hk br (h.row.cell (by decide)) (h.row.cell (by decide))
  go_enter Try.func13, Try.ntmps13
  go_wp2_with fail
  refine Calls.mono hm ?_
  rintro e w1 ⟨rfl, rfl⟩
  go_wp2_with fail
  go_ret
  exact ⟨rfl, rfl⟩

theorem newReach_any (w : World) (g : GA) :
    Calls Try.prog 22 #[] w fun e w' => e = .returned (.pointer (some ⟨w.heap.size, 0, none⟩)) ∧ Below w.heap.size w w' ∧ RA w' g w.heap.size [] (fun _ => false) 0 := by
  go_enter Try.func22, Try.ntmps22
  go_wp2_with fail
  go_ret
  refine ⟨rfl, (Below.refl _ w).alloc (Nat.le_refl _) _, .slice none 0 0, .map none, .slice none 0 0, ?_, World.ownsRow_nil _ _ _ _, .fresh (fun k _ => by simp [mm, hh]) ?_, ?_, fun k hk => by cases hk⟩
  · have h0 : cnt (mm [] (fun _ => false)) g.n = 0 := by unfold cnt; rw [List.countP_eq_zero]; simp [mm]
    rw [h0]
    exact World.rowIs_alloc w _ 67 _ (fun i hi => by
      match i, hi with
      | 0, _ => rfl
      | 1, _ => rfl
      | 2, _ => rfl
      | 3, _ => rfl
      | 4, _ => rfl)
  · unfold cnt; rw [List.countP_eq_zero]; simp [mm]
  · have h0 : cnt (hh []) g.n = 0 := by unfold cnt; rw [List.countP_eq_zero]; simp [hh]
    rw [h0]
    rfl

theorem find_first {f : Nat → Bool} {n r : Nat} (hr : r < n) (h : ∀ i, i < r → f i = false) (hf : f r = true) : (List.range n).find? f = some r := by
  rw [List.find?_range_eq_some]
  exact ⟨hf, List.mem_range.2 hr, fun j hj => by rw [h j hj]; rfl⟩

set_option maxHeartbeats 1000000 in
theorem numberIn_any (w : World) (g : GA) (hn : g.n ≤ 262144) (G : Nat → Prop) (ao : Option Addr) (cp : Nat) (hI : Ints w G ao g.n g.vN) (x : Int) :
    Calls Try.prog 33 #[.slice ao g.n cp, .int .i32 x] w fun e w' => e = .returned (.tuple #[.int .i32 (g.ix x : Int), .bool (g.on x)]) ∧ w' = w := by
  go_enter Try.func33, Try.ntmps33
  go_wp2_with fail
  go_loopg [6] g.n (fun gh t wr => ∃ r : Nat, r ≤ g.n ∧ gh = g.n - r ∧ t = .int .i64 r ∧ wr = w ∧ Hid (∀ i, i < r → (g.vN i == x) = false))
  case atStart => exact ⟨0, Nat.zero_le _, rfl, rfl, rfl, fun i hi => absurd hi (Nat.not_lt_zero i)⟩
  case round =>
    obtain ⟨r, hr, rfl, rfl, rfl, hno⟩ := hrel
    by_cases hlt : r < g.n
    · obtain ⟨b, o, rfl, _, hc⟩ := hI r hlt
      have hz : (r : Int) < g.n := by omega
      cases he : g.vN r == x with
      | true =>
        have hf := find_first (f := fun i => g.vN i == x) hlt hno.out he
        have h1 : g.on x = true := List.any_eq_true.2 ⟨r, List.mem_range.2 hlt, he⟩
        have h2 : g.ix x = r := by unfold GA.ix; rw [hf]; rfl
        generalize g.vN r = y at hc he
        have hw := wrap_in32 (r : Int) (by omega) (by omega)
        have h3 : Hid (Ending.returned (.tuple #[.int .i32 (g.ix x : Int), .bool (g.on x)]) = .returned (.tuple #[.int .i32 (r : Int), .bool true])) := by rw [h1, h2]; rfl
        clear h1 h2 hf
        go_wp2_with fail
        go_ret2
        exact ⟨h3.out.symm, rfl⟩
      | false =>
        have hno' : Hid (∀ i, i < r + 1 → (g.vN i == x) = false) := fun i hi => by
          by_cases e : i = r
          · subst e; exact he
          · exact hno.out i (by omega)
        clear hno
        generalize g.vN r = y at hc he
        go_wp2_with fail
        go_roundg (g.n - (r + 1))
        case measure => omega
        case rel => exact ⟨r + 1, by omega, rfl, by go_num, rfl, hno'⟩
    · obtain rfl : r = g.n := by omega
      have h1 : g.on x = false := by
        unfold GA.on
        rw [List.any_eq_false]
        intro i hi
        rw [hno.out i (List.mem_range.1 hi)]
        simp
      have h3 : Hid (Ending.returned (.tuple #[.int .i32 (g.ix x : Int), .bool (g.on x)]) = .returned (.tuple #[.int .i32 0, .bool false])) := by rw [h1, GA.ix_off h1]; rfl
      clear h1
      go_wp2_with fail
      go_ret2
      exact ⟨h3.out.symm, rfl⟩

/-- A copy. -/
def CloneIs (w : World) (ao : Option Addr) (n : Nat) (f : Nat → Int) (e : Ending) (w' : World) : Prop :=
  ∃ ao', e = .returned (.slice ao' n n) ∧ Below w.heap.size w w' ∧ Ints w' (· < w'.heap.size) ao' n f ∧ (ao' = none ↔ ao = none)

theorem clone_nil (w : World) (f : Nat → Int) : Calls Try.prog 7 #[.slice none 0 0] w (CloneIs w none 0 f) := by
  have he := fun w a n c n' c' => Lib.run_eql_slice_nil (P := Try.prog) w 22 21 a n c n' c' Try.underlying22
  go_enter Try.func7, Try.ntmps7
  go_wp2_with fail
  go_ret
  exact ⟨none, rfl, Below.refl _ _, fun i hi => by omega, by simp⟩

set_option maxHeartbeats 1000000 in
theorem clone_some (w : World) (a : Addr) (n cp : Nat) (f : Nat → Int) (hn : n ≤ 1048576) (hI : Ints w (· < w.heap.size) (some a) n f) : Calls Try.prog 7 #[.slice (some a) n cp] w (CloneIs w (some a) n f) := by
  have he := fun w a n c n' c' => Lib.run_eql_slice_nil (P := Try.prog) w 22 21 a n c n' c' Try.underlying22
  have hmk := run_make_row' (P := Try.prog) 22 21 (.int .i32 0) 4 Try.underlying22 Try.info21 rfl .i64 .i64 n (by omega) (by omega)
  go_enter Try.func7, Try.ntmps7
  go_wp2_with fail
  clear hmk
  go_loopg [4] n (fun g i wr => ∃ r : Nat, r ≤ n ∧ g = n - r ∧ i = .int .i64 r ∧ Below w.heap.size w wr ∧ wr.rowIs w.heap.size 21 n (fun j => if j < r then .int .i32 (f j) else .int .i32 0))
  case atStart => exact ⟨0, Nat.zero_le _, rfl, rfl, (Below.refl _ w).alloc (Nat.le_refl _) _, (World.rowIs_made w (.int .i32 0) n 21).congr (fun j _ => by simp)⟩
  case round =>
    obtain ⟨r, hr, rfl, rfl, hb, hrow⟩ := hrel
    by_cases hlt : r < n
    · obtain ⟨b, o, e, hbl, hc⟩ := hI r hlt
      cases e
      have hc' : wr.cell? ⟨b, o + r, none⟩ = some (.int .i32 (f r)) := by rw [hb.cell (p := ⟨b, o + r, none⟩) hbl]; exact hc
      have hz : (r : Int) < n := by omega
      have c2 : wr.cell? ⟨w.heap.size, r, none⟩ = some (.int .i32 0) := by simpa using hrow.cell hlt
      have f2 : wr.frozen? ⟨w.heap.size, r, none⟩ = false := hrow.frozen r
      have hrow' : (wr.setCell ⟨w.heap.size, r, none⟩ (.int .i32 (f r))).rowIs w.heap.size 21 n (fun j => if j < r + 1 then .int .i32 (f j) else .int .i32 0) := (hrow.set r _).congr (fun j _ => by
        by_cases e : j = r
        · subst e; rw [if_pos rfl, if_pos (by omega)]
        · rw [if_neg e]
          by_cases h : j < r
          · rw [if_pos h, if_pos (by omega)]
          · rw [if_neg h, if_neg (by omega)])
      have hb' := hb.setCell (p := ⟨w.heap.size, r, none⟩) (Nat.le_refl _) (.int .i32 (f r))
      clear hrow hb hc
      generalize f r = y at hc' hrow' hb'
      go_wp2_with fail
      go_roundg (n - (r + 1))
      case measure => omega
      case rel => exact ⟨r + 1, by omega, rfl, by go_num, hb', hrow'⟩
    · obtain rfl : r = n := by omega
      go_wp2_with fail
      go_ret
      refine ⟨_, rfl, hb, fun i hi => ⟨w.heap.size, 0, rfl, hrow.lt, ?_⟩, by simp⟩
      have := hrow.cell hi
      rw [if_pos hi] at this
      rw [Nat.zero_add]
      exact this

theorem clone_any (w : World) (ao : Option Addr) (n cp : Nat) (f : Nat → Int) (hn : n ≤ 1048576) (hnil : ao = none → n = 0 ∧ cp = 0) (hI : Ints w (· < w.heap.size) ao n f) : Calls Try.prog 7 #[.slice ao n cp] w (CloneIs w ao n f) := by
  cases ao with
  | none =>
    obtain ⟨rfl, rfl⟩ := hnil rfl
    exact clone_nil w f
  | some a => exact clone_some w a n cp f hn hI

theorem zzGrow_any {w : World} {args : Array Value} {R : Ending → World → Prop} (a0 a1 a2 a3 a4 : Value) (h : Calls Try.prog 30 #[a0, a1, a2, a3, a4] w R) (hR : ∀ e w', R e w' → ∃ v, e = .returned v) (ha : args = #[a0, a1, a2, a3, a4]) : Calls Try.prog 23 args w R := by
  subst ha
  go_enter Try.func23, Try.ntmps23
  go_wp2_with fail
  refine Calls.mono h ?_
  intro e w1 hr
  obtain ⟨v, rfl⟩ := hR e w1 hr
  go_wp2_with fail
  exact hr

end Go.Proofs.Qxb6619590a
