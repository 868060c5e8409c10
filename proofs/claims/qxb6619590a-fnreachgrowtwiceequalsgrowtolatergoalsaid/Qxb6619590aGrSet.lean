/-
  Statements 4 and 5: function 27, (*nodeSet).add.
-/
import Derived.Test.Qxb6619590aGrGraph
namespace Go.Proofs.Qxb6619590a
open Go.RowKit Go.Deep Go.Maps

/-- The cells of a reach. -/
def rcell (vn few many : Value) (N wk : Nat) : Nat → Value := fun m => if m = 0 then vn else if m = 1 then few else if m = 2 then many else if m = 3 then .int .i64 N else .int .i64 wk

/-- Every row but those of reaches and of states is as it was. -/
def Lies (w w' : World) : Prop := ∀ (b : Nat) (cs : Array Value) (t : TypeId) (fr : Nat × Nat), w.heap[b]? = some (.cells cs t fr) → t ≠ 67 → t ≠ 64 → w'.heap[b]? = some (.cells cs t fr)

theorem Lies.refl (w : World) : Lies w w := fun _ _ _ _ h _ _ => h
theorem Lies.trans {a b c : World} (h : Lies a b) (k : Lies b c) : Lies a c := fun x cs t fr e h1 h2 => k x cs t fr (h x cs t fr e h1 h2) h1 h2
theorem Lies.drewN {a b : World} (h : Lies a b) (n : Nat) : Lies a (b.drewN n) := h
theorem Lies.drew {a b : World} (h : Lies a b) : Lies a b.drew := h
theorem Lies.alloc {a b : World} (h : Lies a b) (o : Obj) : Lies a (b.alloc o) := fun x cs t fr e h1 h2 => by
  have e' := h x cs t fr e h1 h2
  obtain ⟨hlt, _⟩ := Array.getElem?_eq_some_iff.1 e'
  rw [blk_alloc_lt _ _ _ hlt]
  exact e'
theorem Lies.setRow {a b : World} (h : Lies a b) {g t n : Nat} {f : Nat → Value} (hr : b.rowIs g t n f) (ht : t = 67 ∨ t = 64) (i : Nat) (v : Value) : Lies a (b.setCell ⟨g, i, none⟩ v) := fun x cs t' fr e h1 h2 => by
  have e' := h x cs t' fr e h1 h2
  have hne : x ≠ g := fun ex => by
    subst ex
    obtain ⟨c, hb, _⟩ := hr
    rw [e'] at hb
    simp only [Option.some.injEq, Obj.cells.injEq] at hb
    rcases ht with rfl | rfl
    · exact h1 hb.2.1
    · exact h2 hb.2.1
  rw [blk_setCell_other _ _ _ _ hne]
  exact e'
theorem Lies.grown {a b c : World} {row : Nat} (h : Lies a b) (hg : b.grownBy c (some row)) (hm : ∀ (cs : Array Value) (t : TypeId) (fr : Nat × Nat), b.heap[row]? ≠ some (.cells cs t fr)) : Lies a c := fun x cs t fr e h1 h2 => by
  have e' := h x cs t fr e h1 h2
  obtain ⟨hlt, _⟩ := Array.getElem?_eq_some_iff.1 e'
  rw [hg.block x hlt (fun ex => by cases ex; exact hm _ _ _ e')]
  exact e'
theorem Lies.row {a b : World} (h : Lies a b) {g t n : Nat} {f : Nat → Value} (hr : a.rowIs g t n f) (h1 : t ≠ 67) (h2 : t ≠ 64) : b.rowIs g t n f := by
  obtain ⟨c, hb, hn, hc⟩ := hr
  exact ⟨c, h g c t _ hb h1 h2, hn, hc⟩
theorem Lies.owns {a b : World} (h : Lies a b) {base e size n : Nat} {v : Value} {xs : List Value} (ho : a.ownsRow base e size v n xs) (h1 : e ≠ 67) (h2 : e ≠ 64) : b.ownsRow base e size v n xs := by
  obtain ⟨hl, hv | ⟨g, cap, cur, e1, e2, e3, e4⟩⟩ := ho
  · exact ⟨hl, .inl hv⟩
  · exact ⟨hl, .inr ⟨g, cap, cur, e1, e2, h g cur e _ e3 h1 h2, e4⟩⟩

def metWith (M : Nat → Bool) (k : Nat) : Nat → Bool := fun j => M j || decide (j = k)
def heldWith (H : Nat → Bool) (k : Nat) (inn : Bool) : Nat → Bool := fun j => H j || (decide (j = k) && inn)
def cntWith (M : Nat → Bool) (N k : Nat) : Nat := if M k then N else N + 1

/-- What add leaves behind. -/
def AddIs (w : World) (br n N wk : Nat) (M H : Nat → Bool) (k : Nat) (inn : Bool) (vn : Value) (w' : World) : Prop :=
  Below br w w' ∧ Lies w w' ∧ ∃ few many, w'.rowIs br 67 5 (rcell vn few many (cntWith M N k) wk) ∧ SetIs w' (· < br) n (cntWith M N k) (metWith M k) (heldWith H k inn) few many

theorem code_with (M H : Nat → Bool) (k : Nat) (inn : Bool) (j : Nat) : Value.int .u8 (code (metWith M k j) (heldWith H k inn j)) = if j = k then .int .u8 (code true (H k || inn)) else .int .u8 (code (M j) (H j)) := by
  by_cases e : j = k
  · subst e; simp [metWith, heldWith]
  · simp [metWith, heldWith, e]

theorem many_tail {w0 w : World} {br n N wk : Nat} {M H : Nat → Bool} {k : Nat} {inn : Bool} {vn : Value} {bs : Nat} (hb : Below br w0 w) (hl : Lies w0 w) (hbr : w.rowIs br 67 5 (rcell vn (.map none) (.slice (some ⟨bs, 0, none⟩) n n) (cntWith M N k) wk))
    (hbs : br ≤ bs) (hs : w.rowIs bs 64 n (fun j => .int .u8 (code (M j) (H j)))) : AddIs w0 br n N wk M H k inn vn (w.setCell ⟨bs, k, none⟩ (.int .u8 (code true (H k || inn)))) := by
  have hne : br ≠ bs := fun e => by
    subst e
    obtain ⟨c, h1, _⟩ := hbr
    obtain ⟨c', h2, _⟩ := hs
    rw [h1] at h2
    simp at h2
  exact ⟨hb.setCell (show br ≤ bs from hbs) _, hl.setRow hs (.inr rfl) _ _, _, _, hbr.setOther (a := ⟨bs, k, none⟩) hne _,
    .many bs (by omega) ((hs.set k _).congr (fun j _ => (code_with M H k inn j).symm))⟩

theorem row_n {w : World} {br N wk N' : Nat} {vn few many : Value} (h : w.rowIs br 67 5 (rcell vn few many N wk)) : (w.setCell ⟨br, 3, none⟩ (.int .i64 (N' : Int))).rowIs br 67 5 (rcell vn few many N' wk) :=
  (h.set 3 _).congr (fun j hj => by
    match j, hj with
    | 0, _ => rfl
    | 1, _ => rfl
    | 2, _ => rfl
    | 3, _ => rfl
    | 4, _ => rfl)
theorem row_many {w : World} {br N wk : Nat} {vn few many many' : Value} (h : w.rowIs br 67 5 (rcell vn few many N wk)) : (w.setCell ⟨br, 2, none⟩ many').rowIs br 67 5 (rcell vn few many' N wk) :=
  (h.set 2 _).congr (fun j hj => by
    match j, hj with
    | 0, _ => rfl
    | 1, _ => rfl
    | 2, _ => rfl
    | 3, _ => rfl
    | 4, _ => rfl)
theorem row_few {w : World} {br N wk : Nat} {vn few many few' : Value} (h : w.rowIs br 67 5 (rcell vn few many N wk)) : (w.setCell ⟨br, 1, none⟩ few').rowIs br 67 5 (rcell vn few' many N wk) :=
  (h.set 1 _).congr (fun j hj => by
    match j, hj with
    | 0, _ => rfl
    | 1, _ => rfl
    | 2, _ => rfl
    | 3, _ => rfl
    | 4, _ => rfl)

theorem code_max (m h : Bool) : (if code m h < 1 then 1 else code m h) = code true (h || false) := by cases m <;> cases h <;> rfl

theorem SetIs.drewN {w : World} {F : Nat → Prop} {n N : Nat} {M H : Nat → Bool} {few many : Value} (h : SetIs w F n N M H few many) (q : Nat) : SetIs (w.drewN q) F n N M H few many := by
  cases h with
  | fresh h0 hN => exact .fresh h0 hN
  | few bm D hF hown hD => exact .few bm D hF hown hD
  | many bs hF hrow => exact .many bs hF hrow

theorem AddIs.drewN {w : World} {br n N wk : Nat} {M H : Nat → Bool} {k : Nat} {inn : Bool} {vn : Value} {w' : World} (h : AddIs w br n N wk M H k inn vn w') (q : Nat) : AddIs w br n N wk M H k inn vn (w'.drewN q) := by
  obtain ⟨h1, h2, few, many, h3, h4⟩ := h
  exact ⟨(Kept.of_below h1 |>.drewN q).below, h2, few, many, h3, h4.drewN q⟩
theorem AddIs.drew {w : World} {br n N wk : Nat} {M H : Nat → Bool} {k : Nat} {inn : Bool} {vn : Value} {w' : World} (h : AddIs w br n N wk M H k inn vn w') : AddIs w br n N wk M H k inn vn w'.drew := h.drewN 1

set_option maxRecDepth 100000 in
set_option maxHeartbeats 1000000 in
theorem add_many (w : World) (br bg n N wk : Nat) (M H : Nat → Bool) (k : Nat) (inn : Bool) (vn : Value) (bs : Nat) (hn : n ≤ 262144) (hk : k < n) (hN : N ≤ n) (hMH : ∀ k, H k = true → M k = true)
    (hbr : w.rowIs br 67 5 (rcell vn (.map none) (.slice (some ⟨bs, 0, none⟩) n n) N wk)) (hbs : br ≤ bs) (hs : w.rowIs bs 64 n (fun j => .int .u8 (code (M j) (H j)))) :
    Calls Try.prog 27 #[.pointer (some ⟨br, 1, none⟩), .pointer (some ⟨bg, 0, none⟩), .int .i32 (k : Int), .bool inn] w fun e w' => e = .returned (.tuple #[]) ∧ AddIs w br n N wk M H k inn vn w' := by
  have hq := fun w a n c n' c' => run_neq_slice_nil_any (P := Try.prog) w 59 64 a n c n' c' Try.underlying59
  have he := fun w a n c n' c' => Lib.run_eql_slice_nil (P := Try.prog) w 59 64 a n c n' c' Try.underlying59
  have c1 : w.cell? ⟨br, 1, none⟩ = some (.map none) := hbr.cell (by decide)
  have c2 : w.cell? ⟨br, 2, none⟩ = some (.slice (some ⟨bs, 0, none⟩) n n) := hbr.cell (by decide)
  have c3 : w.cell? ⟨br, 3, none⟩ = some (.int .i64 N) := hbr.cell (by decide)
  have f3 : w.frozen? ⟨br, 3, none⟩ = false := hbr.frozen 3
  have fk : w.frozen? ⟨bs, k, none⟩ = false := hs.frozen k
  have ck : w.cell? ⟨bs, k, none⟩ = some (.int .u8 (code (M k) (H k))) := hs.cell hk
  have hne : bs ≠ br := fun e => by
    subst e
    obtain ⟨c, h1, _⟩ := hbr
    obtain ⟨c', h2, _⟩ := hs
    rw [h1] at h2
    simp at h2
  have hset : SetIs w (· < br) n N M H (.map none) (.slice (some ⟨bs, 0, none⟩) n n) := .many bs (by omega) hs
  have hkn : (k : Int) < n := by omega
  have hm := fun q => met_any (w.drewN q) (hset.drewN q) (by omega) hMH hk br c1 c2
  have hmx := code_max (M k) (H k)
  have hN1 := wrap_in ((N : Int) + 1) (by omega) (by omega)
  obtain ⟨cd, hcd⟩ : ∃ cd, cd = code (M k) (H k) := ⟨_, rfl⟩
  rw [← hcd] at ck hmx
  have h2 : code true (H k || true) = 2 := by simp [code]
  cases hM : M k with
  | true =>
    have hfin : Hid (∀ q, AddIs w br n N wk M H k inn vn ((w.drewN q).setCell ⟨bs, k, none⟩ (.int .u8 (code true (H k || inn))))) := fun q =>
      many_tail (w := w.drewN q) (Kept.of_below (Below.refl br w) |>.drewN q |>.below) (Lies.refl w) (by rw [cntWith, hM]; exact hbr) hbs hs
    rw [hM] at hm
    clear hbr hs hset hM hcd
    cases inn with
    | true =>
      rw [h2] at hfin
      clear hmx h2
      go_enter Try.func27, Try.ntmps27
      go_wp2_with fail
      go_quiet (fail)
      go_wp2_with fail
      refine Calls.mono (hm nq) ?_
      rintro e w1 ⟨rfl, rfl⟩
      clear hm
      go_wp2_with fail
      go_end0
      exact ⟨rfl, hfin.out _⟩
    | false =>
      clear h2
      by_cases hc1 : cd < 1
      all_goals
        first
          | rw [if_pos hc1] at hmx
          | rw [if_neg hc1] at hmx
        rw [← hmx] at hfin
        clear hmx
        go_enter Try.func27, Try.ntmps27
        go_wp2_with fail
        go_quiet (fail)
        go_wp2_with fail
        refine Calls.mono (hm nq) ?_
        rintro e w1 ⟨rfl, rfl⟩
        clear hm
        go_wp2_with fail
        go_big_region
        go_wp2_with fail
        go_end0
        exact ⟨rfl, hfin.out _⟩
  | false =>
    have hfin : Hid (∀ q, AddIs w br n N wk M H k inn vn (((w.drewN q).setCell ⟨br, 3, none⟩ (.int .i64 ((N : Int) + 1))).setCell ⟨bs, k, none⟩ (.int .u8 (code true (H k || inn))))) := fun q =>
      many_tail (w := (w.drewN q).setCell ⟨br, 3, none⟩ (.int .i64 ((N : Int) + 1))) (((Kept.of_below (Below.refl br w) |>.drewN q |>.below)).setCell (Nat.le_refl _) _) ((Lies.refl w).setRow (b := w.drewN q) hbr (.inl rfl) _ _) (by rw [cntWith, hM]; exact row_n (N' := N + 1) (w := w.drewN q) hbr) hbs (World.rowIs.setOther (w := w.drewN q) (a := ⟨br, 3, none⟩) hs hne _)
    rw [hM] at hm
    clear hbr hs hset hM hcd
    cases inn with
    | true =>
      rw [h2] at hfin
      clear hmx h2
      go_enter Try.func27, Try.ntmps27
      go_wp2_with fail
      go_quiet (fail)
      go_wp2_with fail
      refine Calls.mono (hm nq) ?_
      rintro e w1 ⟨rfl, rfl⟩
      clear hm
      go_wp2_with fail
      go_end0
      exact ⟨rfl, hfin.out _⟩
    | false =>
      clear h2
      by_cases hc1 : cd < 1
      all_goals
        first
          | rw [if_pos hc1] at hmx
          | rw [if_neg hc1] at hmx
        rw [← hmx] at hfin
        clear hmx
        go_enter Try.func27, Try.ntmps27
        go_wp2_with fail
        go_quiet (fail)
        go_wp2_with fail
        refine Calls.mono (hm nq) ?_
        rintro e w1 ⟨rfl, rfl⟩
        clear hm
        go_wp2_with fail
        go_big_region
        go_wp2_with fail
        go_end0
        exact ⟨rfl, (hfin.out _).drew⟩

end Go.Proofs.Qxb6619590a
