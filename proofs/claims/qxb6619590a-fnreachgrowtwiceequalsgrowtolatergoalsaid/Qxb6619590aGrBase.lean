/-
  Statements 4 and 5: how a reach and its set of nodes lie in memory; met and holds.
-/
import Derived.Test.Qxb6619590aRows
import Derived.WalkKit
import Derived.WalkSpells
import Derived.WalkLawsBesides
import Derived.Deep.OwnRows
import Derived.Deep.LoopGhost
import Derived.Deep.RegionWith
import Derived.Deep.QuietTactic
import Derived.BigQuiet
import Derived.BigRegion
import Derived.Deep.AppendLies
import Derived.Maps.OwnSet
import Derived.Maps.RangeWalk
import Derived.Laws.BitsLemmas
namespace Go.Proofs.Qxb6619590a
open Go.RowKit Go.Deep Go.Maps

theorem zero4 (w : World) : (zeroValue 4).run Try.prog w = .ok (.bool false) w := by kernel_rfl
theorem key21 : Keyed Try.prog 21 := int_keyed Try.underlying21
theorem wfKey {k n : Nat} (h : k < n) (hn : n ≤ 1048576) : (Lit.int .i32 (k : Int)).wf = true := by
  have h1 : IntKind.i32.min = -2147483648 := rfl
  have h2 : IntKind.i32.max = 2147483647 := rfl
  simp only [Lit.wf, h1, h2, Bool.and_eq_true, decide_eq_true_eq]
  omega

theorem plainElem_bool_inv {H : Type} {P : Program} {e : TypeId} (he : P.underlying e = some .bool) {v : Value} {z : DataW H × List MemPlace} (h : plainElem P e v = some z) : ∃ a, v = .bool a ∧ z = (.lit (.bool a), []) := by
  unfold plainElem at h
  rw [he] at h
  cases v <;> simp at h
  exact ⟨_, rfl, h.symm⟩

theorem wrap_in (x : Int) (h0 : -4000000000000000000 ≤ x) (h1 : x ≤ 4000000000000000000) : IntKind.i64.wrap x = x := by
  rw [IntKind.wrap_i64]
  omega
theorem wrap_in32 (x : Int) (h0 : -2147483648 ≤ x) (h1 : x ≤ 2147483647) : IntKind.i32.wrap x = x := by
  rw [IntKind.wrap_i32]
  omega

/-- All blocks of F are as they were. -/
structure Kept (F : Nat → Prop) (w w' : World) : Prop where
  os : w'.os = w.os
  tape : w'.tape = w.tape
  output : w'.output = w.output
  size : w.heap.size ≤ w'.heap.size
  block : ∀ b, F b → w'.heap[b]? = w.heap[b]?

theorem Kept.refl (F : Nat → Prop) (w : World) : Kept F w w := ⟨rfl, rfl, rfl, Nat.le_refl _, fun _ _ => rfl⟩
theorem Kept.trans {F : Nat → Prop} {a b c : World} (h : Kept F a b) (k : Kept F b c) : Kept F a c := ⟨k.os.trans h.os, k.tape.trans h.tape, k.output.trans h.output, Nat.le_trans h.size k.size, fun x hx => (k.block x hx).trans (h.block x hx)⟩
theorem Kept.mono {F G : Nat → Prop} {a b : World} (h : Kept F a b) (hG : ∀ x, G x → F x) : Kept G a b := ⟨h.os, h.tape, h.output, h.size, fun x hx => h.block x (hG x hx)⟩
theorem Kept.drew {F : Nat → Prop} {a b : World} (h : Kept F a b) : Kept F a b.drew := ⟨h.os, h.tape, h.output, h.size, h.block⟩
theorem Kept.drewN {F : Nat → Prop} {a b : World} (h : Kept F a b) (n : Nat) : Kept F a (b.drewN n) := ⟨h.os, h.tape, h.output, h.size, h.block⟩
theorem Kept.cell {F : Nat → Prop} {a b : World} (h : Kept F a b) {p : Addr} (hp : F p.block) : b.cell? p = a.cell? p := World.cell?_of_block (w := a) (h.block p.block hp)
theorem Kept.frozen {F : Nat → Prop} {a b : World} (h : Kept F a b) {p : Addr} (hp : F p.block) : b.frozen? p = a.frozen? p := World.frozen?_of_block (w := a) (h.block p.block hp)
theorem Kept.setCell {F : Nat → Prop} {a b : World} (h : Kept F a b) {p : Addr} (hp : ¬ F p.block) (v : Value) : Kept F a (b.setCell p v) :=
  h.trans ⟨rfl, rfl, rfl, Nat.le_of_eq (nblk_setCell _ _ _).symm, fun _ hx => blk_setCell_other _ _ _ _ (fun e => hp (e ▸ hx))⟩
theorem Kept.alloc {F : Nat → Prop} {a b : World} (h : Kept F a b) (hF : ∀ x, F x → x < a.heap.size) (o : Obj) : Kept F a (b.alloc o) :=
  h.trans ⟨rfl, rfl, rfl, by rw [nblk_alloc]; omega, fun x hx => blk_alloc_lt _ _ _ (Nat.lt_of_lt_of_le (hF x hx) h.size)⟩
theorem Kept.grown {F : Nat → Prop} {a b c : World} {row : Option Nat} (h : Kept F a b) (hF : ∀ x, F x → x < a.heap.size) (hg : b.grownBy c row) (hr : ∀ k, row = some k → ¬ F k) : Kept F a c :=
  h.trans ⟨hg.os, hg.tape, hg.output, hg.size, fun x hx => hg.block x (Nat.lt_of_lt_of_le (hF x hx) h.size) (fun e => hr x e.symm hx)⟩
theorem Kept.below {B : Nat} {a b : World} (h : Kept (· < B) a b) : Below B a b := ⟨h.os, h.tape, h.output, h.size, h.block⟩
theorem Kept.of_below {B : Nat} {a b : World} (h : Below B a b) : Kept (· < B) a b := ⟨h.os, h.tape, h.output, h.size, h.block⟩

def code (m h : Bool) : Int := if h then 2 else if m then 1 else 0

structure Few (D : DataW Unit) (n N : Nat) (M H : Nat → Bool) : Prop where
  has : ∀ k : Nat, k < n → Maps.has D (.int .i32 (k : Int)) = M k
  look : ∀ k : Nat, k < n → D.atKey (.int .i32 (k : Int)) (.lit (.bool false)) = .lit (.bool (H k))
  key : ∀ x : Int, Maps.has D (.int .i32 x) = true → ∃ k : Nat, k < n ∧ x = k
  size : Maps.size D = N

inductive SetIs (w : World) (F : Nat → Prop) (n N : Nat) (M H : Nat → Bool) : Value → Value → Prop
  | fresh : (∀ k, k < n → M k = false ∧ H k = false) → N = 0 → SetIs w F n N M H (.map none) (.slice none 0 0)
  | few (bm : Nat) (D : DataW Unit) : ¬ F bm → w.ownsMap Try.prog 21 (plainElem Try.prog 4) bm N D → Few D n N M H → SetIs w F n N M H (.map (some bm)) (.slice none 0 0)
  | many (bs : Nat) : ¬ F bs → w.rowIs bs 64 n (fun k => .int .u8 (code (M k) (H k))) → SetIs w F n N M H (.map none) (.slice (some ⟨bs, 0, none⟩) n n)

theorem SetIs.look {w : World} {F : Nat → Prop} {n N : Nat} {M H : Nat → Bool} {few many : Value} (h : SetIs w F n N M H few many) (hn : n ≤ 1048576) {k : Nat} (hk : k < n) :
    (many = .slice none 0 0 ∧ (Instr.lookup 58 few (.int .i32 (k : Int)) true).run Try.prog w = .ok (.tuple #[.bool (H k), .bool (M k)]) w ∧ (Instr.lookup 58 few (.int .i32 (k : Int)) false).run Try.prog w = .ok (.bool (H k)) w)
    ∨ (∃ bs, many = .slice (some ⟨bs, 0, none⟩) n n ∧ w.cell? ⟨bs, k, none⟩ = some (.int .u8 (code (M k) (H k)))) := by
  have hkey : keyOf Try.prog 21 (.int .i32 (k : Int)) = some (.int .i32 (k : Int)) := keyOf_int_mk Try.underlying21 (wfKey hk hn)
  cases h with
  | fresh h0 hN =>
    have e := Maps.look_nil (w := w) true key21 Try.underlying58 (zero4 w) hkey
    have e' := Maps.look_nil (w := w) false key21 Try.underlying58 (zero4 w) hkey
    rw [(h0 k hk).1, (h0 k hk).2]
    exact .inl ⟨rfl, by simpa using e, by simpa using e'⟩
  | few bm D hF hown hD =>
    obtain ⟨v, ps, e, hv⟩ := hown.look_ok key21 Try.underlying58 (zero4 w) (plainElem_bool Try.underlying4 false) hkey
    obtain ⟨v', ps', e', hv'⟩ := hown.lookup key21 Try.underlying58 (zero4 w) (plainElem_bool Try.underlying4 false) hkey
    rw [hD.look k hk] at hv hv'
    obtain ⟨a, rfl, ha⟩ := plainElem_bool_inv Try.underlying4 hv
    obtain ⟨a', rfl, ha'⟩ := plainElem_bool_inv Try.underlying4 hv'
    rw [hD.has k hk] at e
    simp at ha ha'
    rw [← ha.1] at e
    rw [← ha'.1] at e'
    exact .inl ⟨rfl, e, e'⟩
  | many bs hF hrow => exact .inr ⟨bs, rfl, hrow.cell hk⟩

theorem code_ne (m h : Bool) (hm : h = true → m = true) : (code m h == 0) = !m := by cases m <;> cases h <;> simp_all [code]
theorem code_eq (m h : Bool) : (code m h == 2) = h := by cases m <;> cases h <;> simp [code]

set_option maxHeartbeats 1000000 in
theorem met_any (w : World) {F : Nat → Prop} {n N : Nat} {M H : Nat → Bool} {few many : Value} (h : SetIs w F n N M H few many) (hn : n ≤ 1048576) (hMH : ∀ k, H k = true → M k = true) {k : Nat} (hk : k < n) (br : Nat)
    (c1 : w.cell? ⟨br, 1, none⟩ = some few) (c2 : w.cell? ⟨br, 2, none⟩ = some many) :
    Calls Try.prog 28 #[.pointer (some ⟨br, 1, none⟩), .int .i32 (k : Int)] w fun e w' => e = .returned (.bool (M k)) ∧ w' = w := by
  have hq := fun w a n c n' c' => run_neq_slice_nil_any (P := Try.prog) w 59 64 a n c n' c' Try.underlying59
  rcases h.look hn hk with ⟨rfl, e, -⟩ | ⟨bs, rfl, hc⟩
  · clear h
    go_enter Try.func28, Try.ntmps28
    go_wp2_with fail
    go_ret
    exact ⟨rfl, rfl⟩
  · clear h
    have hcd := code_ne (M k) (H k) (hMH k)
    have hk' : (k : Int) < n := by omega
    obtain ⟨cd, hcc⟩ : ∃ cd, cd = code (M k) (H k) := ⟨_, rfl⟩
    rw [← hcc] at hc hcd
    obtain ⟨m, hm⟩ : ∃ m, m = M k := ⟨_, rfl⟩
    rw [← hm] at hcd ⊢
    clear hcc hm hMH
    go_enter Try.func28, Try.ntmps28
    go_wp2_with fail
    go_ret
    exact ⟨by rw [bne, hcd]; simp, rfl⟩

set_option maxHeartbeats 1000000 in
theorem holds_any (w : World) {F : Nat → Prop} {n N : Nat} {M H : Nat → Bool} {few many : Value} (h : SetIs w F n N M H few many) (hn : n ≤ 1048576) {k : Nat} (hk : k < n) (br : Nat)
    (c1 : w.cell? ⟨br, 1, none⟩ = some few) (c2 : w.cell? ⟨br, 2, none⟩ = some many) :
    Calls Try.prog 29 #[.pointer (some ⟨br, 1, none⟩), .int .i32 (k : Int)] w fun e w' => e = .returned (.bool (H k)) ∧ w' = w := by
  have hq := fun w a n c n' c' => run_neq_slice_nil_any (P := Try.prog) w 59 64 a n c n' c' Try.underlying59
  rcases h.look hn hk with ⟨rfl, -, e⟩ | ⟨bs, rfl, hc⟩
  · clear h
    go_enter Try.func29, Try.ntmps29
    go_wp2_with fail
    go_ret
    exact ⟨rfl, rfl⟩
  · clear h
    have hcd := code_eq (M k) (H k)
    have hk' : (k : Int) < n := by omega
    obtain ⟨cd, hcc⟩ : ∃ cd, cd = code (M k) (H k) := ⟨_, rfl⟩
    rw [← hcc] at hc hcd
    obtain ⟨m, hm⟩ : ∃ m, m = H k := ⟨_, rfl⟩
    rw [← hm] at hcd ⊢
    clear hcc hm
    go_enter Try.func29, Try.ntmps29
    go_wp2_with fail
    go_ret
    exact ⟨by simp, rfl⟩

end Go.Proofs.Qxb6619590a
