/-
  Statement 1: function 14, (*ordered).split.
-/
import Derived.Test.Qxb6618050aSpRow
namespace Go.Proofs.Qxb6618050a
open Go.RowKit Go.Deep

theorem Try.info43 : (Try.prog.info? 43).map (fun i => (i.zero, i.size, i.bytes)) = some (some (.agg #[.slice none 0 0, .slice none 0 0, .slice none 0 0]), 3, 72) := by kernel_rfl
theorem Try.size43 : (Try.prog.info? 43).map (·.size) = some 3 := by kernel_rfl
theorem Try.zero9 (w : World) : (zeroValue 9).run Try.prog w = .ok (.string ⟨#[]⟩) w := by kernel_rfl

/-- 'x[l:]': from where it lies to where its elements lie, if it has any. -/
theorem sliceLow {P : Program} (T E : TypeId) (s : Nat) (hu : P.underlying T = some (.slice E)) (he : P.elem T = E) (hs : (P.info? E).map (·.size) = some s) (b o len cap l : Nat) (hl : l ≤ len) :
    ∃ ad : Addr, (∀ W, (Instr.slice T (.slice (some ⟨b, o, none⟩) len cap) (some (.int .i64 (l : Int))) none none).run P W = .ok (.slice (some ad) (len - l) (cap - l)) W) ∧ (l < cap → ad = ⟨b, o + l * s, none⟩) := by
  cases hq : P.info? E with
  | none => simp [hq] at hs
  | some i =>
    have hi : i.size = s := by simpa [hq] using hs
    refine ⟨if cap = l then ⟨b, o, none⟩ else (⟨b, o, none⟩ : Addr).add (l * s), fun W => ?_, fun h => ?_⟩
    · rw [run_slice_l W T (some ⟨b, o, none⟩) len cap (by rw [he]; exact hu) .i64 (l : Int) (by omega) (by omega), he]
      simp [sizeOf, typeInfo, hq, hi, sliced]
      split <;> simp
    · rw [if_neg (by omega), Addr.add_lit]

theorem Try.elem26 : Try.prog.elem 26 = 9 := by kernel_rfl
theorem Try.elem39 : Try.prog.elem 39 = 43 := by kernel_rfl
theorem Try.size9 : (Try.prog.info? 9).map (·.size) = some 1 := by kernel_rfl

/-- Cell m of the runs behind split(i). -/
def fin (f : Nat → Value) (i bi Li : Nat) (au : Option Addr) (cu : Nat) (m : Nat) : Value :=
  if m < 3 * i then f m else if m = 3 * i then .slice (some ⟨bi, 0, none⟩) 128 Li else if m < 3 * (i + 1) then f m
  else if m = 3 * (i + 1) then .slice au (Li - 128) cu else if m < 3 * (i + 2) then .slice none 0 0 else f (m - 3)

theorem fin_eq {f f5 : Nat → Value} {n i bi Li cu : Nat} {au : Option Addr} (hi : i < n) (h1 : ∀ m, m < 3 * n → f5 m = if m = i * 3 then Value.slice (some ⟨bi, 0, none⟩) 128 Li else f m) (m : Nat) (hm : m < 3 * (n + 1)) :
    (if m = (i + 1) * 3 + 2 then Value.slice none 0 0 else if m = (i + 1) * 3 + 1 then Value.slice none 0 0 else if m = (i + 1) * 3 then Value.slice au (Li - 128) cu
      else over f5 ((i + 2) * 3) ((List.range ((n - i - 1) * 3)).map fun k => f5 ((i + 1) * 3 + k)) m) = fin f i bi Li au cu m := by
  unfold fin
  by_cases c1 : m < 3 * i
  · rw [if_pos c1, if_neg (by omega), if_neg (by omega), if_neg (by omega), over, if_neg (by omega), h1 m (by omega), if_neg (by omega)]
  rw [if_neg c1]
  by_cases c2 : m = 3 * i
  · rw [if_pos c2, if_neg (by omega), if_neg (by omega), if_neg (by omega), over, if_neg (by omega), h1 m (by omega), if_pos (by omega)]
  rw [if_neg c2]
  by_cases c3 : m < 3 * (i + 1)
  · rw [if_pos c3, if_neg (by omega), if_neg (by omega), if_neg (by omega), over, if_neg (by omega), h1 m (by omega), if_neg (by omega)]
  rw [if_neg c3]
  by_cases c4 : m = 3 * (i + 1)
  · rw [if_pos c4, if_neg (by omega), if_neg (by omega), if_pos (by omega)]
  rw [if_neg c4]
  by_cases c5 : m < 3 * (i + 2)
  · rw [if_pos c5]
    by_cases c6 : m = (i + 1) * 3 + 2
    · rw [if_pos c6]
    · rw [if_neg c6, if_pos (by omega)]
  · have hc : (i + 2) * 3 ≤ m ∧ m < (i + 2) * 3 + ((List.range ((n - i - 1) * 3)).map fun k => f5 ((i + 1) * 3 + k)).length := by
      rw [List.length_map, List.length_range]
      omega
    rw [if_neg c5, if_neg (by omega), if_neg (by omega), if_neg (by omega), over, if_pos hc]
    have e : (List.range ((n - i - 1) * 3))[m - (i + 2) * 3]? = some (m - (i + 2) * 3) := List.getElem?_range (by omega)
    rw [List.getD_eq_getElem?_getD, List.getElem?_map, e]
    show f5 ((i + 1) * 3 + (m - (i + 2) * 3)) = _
    rw [h1 _ (by omega), if_neg (by omega)]
    congr 1
    omega

/-- What split(i) leaves. -/
structure SplitPost (w w' : World) (bo br bi n i Li : Nat) (first : Int) (root : ByteArray) (f : Nat → Value) (S : Nat → ByteArray) (g cap : Nat) (au : Option Addr) (cu : Nat) : Prop where
  top : w'.rowIs bo 41 3 (fun m => if m = 0 then .slice (some ⟨g, 0, none⟩) (n + 1) cap else if m = 1 then .int .i64 first else .string root)
  row : ∀ m, m < 3 * (n + 1) → w'.cell? ⟨g, m, none⟩ = some (fin f i bi Li au cu m)
  new : w.heap.size ≤ g
  lt : g < w'.heap.size
  upper : ∀ k, k < Li - 128 → ∃ b, au = some ⟨b, 0, none⟩ ∧ w.heap.size ≤ b ∧ b < w'.heap.size ∧ w'.cell? ⟨b, k, none⟩ = some (.string (S (128 + k)))
  unil : au = none → Li - 128 = 0 ∧ cu = 0
  low : ∀ k, k < 128 → w'.cell? ⟨bi, k, none⟩ = some (.string (S k))
  same : ∀ b, b < w.heap.size → b ≠ bo → b ≠ br → b ≠ bi → w'.heap[b]? = w.heap[b]?
  os : w'.os = w.os
  tape : w'.tape = w.tape
  output : w'.output = w.output
  size : w.heap.size ≤ w'.heap.size

set_option maxRecDepth 100000 in
set_option maxHeartbeats 1000000 in
theorem split_any (w : World) (bo br bi n i Li : Nat) (first : Int) (root : ByteArray) (f : Nat → Value) (S : Nat → ByteArray)
    (ho : w.rowIs bo 41 3 (fun m => if m = 0 then .slice (some ⟨br, 0, none⟩) n n else if m = 1 then .int .i64 first else .string root))
    (hr : w.rowIs br 43 (3 * n) f) (hf : f (3 * i) = .slice (some ⟨bi, 0, none⟩) Li Li) (hk : w.rowIs bi 9 Li (fun k => .string (S k)))
    (hone : ∀ m, m < 3 * n → (f m).oneCell' = true) (hi : i < n) (hn : n ≤ 1048576) (hl : 128 ≤ Li) (hl2 : Li ≤ 1048576) (d1 : bo ≠ br) (d2 : bo ≠ bi) (d3 : br ≠ bi) :
    Calls Try.prog 14 #[.pointer (some ⟨bo, 0, none⟩), .int .i64 i] w fun e w' => e = .returned (.tuple #[]) ∧ ∃ g cap au cu, SplitPost w w' bo br bi n i Li first root f S g cap au cu := by
  obtain ⟨i9, hi9, hz90, hz91, hz92⟩ := info_parts Try.info9
  have g0 : w.cell? ⟨bo, 0, none⟩ = some (.slice (some ⟨br, 0, none⟩) n n) := by simpa using ho.cell (i := 0) (by omega)
  have g1 : w.cell? ⟨br, i * 3, none⟩ = some (.slice (some ⟨bi, 0, none⟩) Li Li) := by rw [Nat.mul_comm]; rw [hr.cell (i := 3 * i) (by omega), hf]
  obtain ⟨ad, hsl0, had⟩ := sliceLow (P := Try.prog) 26 9 1 Try.underlying26 Try.elem26 Try.size9 bi 0 Li Li 128 hl
  have hsl : ∀ W, (Instr.slice 26 (.slice (some ⟨bi, 0, none⟩) Li Li) (some (.int .i64 128)) none none).run Try.prog W = .ok (.slice (some ad) (Li - 128) (Li - 128)) W := hsl0
  have HAD : Hid (128 < Li → ad = ⟨bi, 128, none⟩) := had
  clear had hsl0
  go_enter Try.func14, Try.ntmps14
  go_wp2_with (at_builtin; refine wpList_append_own _ rfl (.const (.slice none 0 0)) (.tmp 16) 26 rfl w.heap.size 9 i9 (.string ⟨#[]⟩) 1 16 Try.underlying26 hi9 hz90 hz91 hz92 rfl (by decide) (.slice none 0 0) 0 [] rfl (World.ownsRow_nil _ _ _ _) ad (Li - 128) (Li - 128) ((List.range (Li - 128)).map fun k => .string (S (128 + k))) rfl ?c1 ?c2 ?c3 ?c4 ?c5 ?c6 ?_)
  case c1 => simp
  case c2 =>
    intro j u hj
    obtain ⟨hjl, rfl⟩ : j < Li - 128 ∧ Value.string (S (128 + j)) = u := by
      rw [List.getElem?_map] at hj
      obtain ⟨k, hk1, rfl⟩ := Option.map_eq_some_iff.1 hj
      obtain ⟨h1, h2⟩ := List.getElem?_eq_some_iff.1 hk1
      simp at h1 h2
      exact ⟨h1, by rw [h2]⟩
    rw [HAD.out (by omega), Addr.add_lit, hk.cell (by omega)]
  case c3 => intro u hu; obtain ⟨k, _, rfl⟩ := List.mem_map.1 hu; rfl
  case c4 => unfold maxLen; omega
  case c5 => omega
  case c6 => exact Nat.le_refl _
  intro v1 w1 hown1 hgr1 hnn
  clear hnn
  have hb1 : Below w.heap.size w w1 := (Below.refl _ _).grown hgr1 (Nat.le_refl _) (fun k hk => by cases hk)
  have hbo := ho.lt
  have hbr := hr.lt
  have hbi := hk.lt
  have hs1 := hb1.size
  have g0' : w1.cell? ⟨bo, 0, none⟩ = some (.slice (some ⟨br, 0, none⟩) n n) := by rw [hb1.cell (p := ⟨bo, 0, none⟩) hbo]; exact g0
  have g1' : w1.cell? ⟨br, i * 3, none⟩ = some (.slice (some ⟨bi, 0, none⟩) Li Li) := by rw [hb1.cell (p := ⟨br, i * 3, none⟩) hbr]; exact g1
  obtain ⟨au, cu, hv1, _, hel1, hnil1⟩ := owned_shape hown1
  rw [hv1]
  have q1 : br < w1.heap.size := by omega
  have q2 : bo < w1.heap.size := by omega
  have q3 : bi < w1.heap.size := by omega
  clear g0 g1 hv1 hgr1 hown1
  go_wp2_with fail
  obtain ⟨W2, hW2⟩ : ∃ W2, W2 = w1.alloc (.cells #[.slice au (Li - 128) cu, .slice none 0 0, .slice none 0 0] 43) := ⟨_, rfl⟩
  rw [← hW2]
  have hk2 : W2.rowIs bi 9 Li (fun k => .string (S k)) := by rw [hW2]; exact (hk.of_block (hb1.block bi hbi)).alloc _
  have ho2 : W2.rowIs bo 41 3 (fun m => if m = 0 then .slice (some ⟨br, 0, none⟩) n n else if m = 1 then .int .i64 first else .string root) := by rw [hW2]; exact (ho.of_block (hb1.block bo hbo)).alloc _
  have hr2 : W2.rowIs br 43 (3 * n) f := by rw [hW2]; exact (hr.of_block (hb1.block br hbr)).alloc _
  have hu2 : W2.rowIs w1.heap.size 43 3 (fun m => if m = 0 then .slice au (Li - 128) cu else .slice none 0 0) := by
    rw [hW2]
    exact World.rowIs_alloc w1 #[.slice au (Li - 128) cu, .slice none 0 0, .slice none 0 0] 43 _ (fun m hm => by
      match m, hm with
      | 0, _ => rfl
      | 1, _ => rfl
      | 2, _ => rfl)
  have hb2 : Below w.heap.size w W2 := by rw [hW2]; exact hb1.alloc hs1 _
  have hel2 : ∀ k, k < Li - 128 → ∃ b, au = some ⟨b, 0, none⟩ ∧ w.heap.size ≤ b ∧ b < w1.heap.size ∧ W2.cell? ⟨b, k, none⟩ = some (.string (S (128 + k))) := by
    intro k hk
    obtain ⟨b, e, h1, h2, h3⟩ := hel1 k (.string (S (128 + k))) (by simp [hk])
    exact ⟨b, e, h1, h2, by rw [hW2, World.cell?_alloc_old _ _ _ (by show b ≠ w1.heap.size; omega)]; exact h3⟩
  have hs2 : W2.heap.size = w1.heap.size + 1 := by rw [hW2]; simp
  clear hW2 hel1
  obtain ⟨W3, hcl, hk3, hbut3⟩ := clearRow (P := Try.prog) hk2 26 0 9 (.string ⟨#[]⟩) Try.underlying26 Try.zero9 rfl rfl (some ad) (Li - 128) (Li - 128) 128 (fun h => by rw [HAD.out (by omega)]) (by omega)
  rw [hcl]
  have hne : w1.heap.size ≠ bi := by omega
  have ho3 := hbut3.row ho2 d2
  have hr3 := hbut3.row hr2 d3
  have hu3 := hbut3.row hu2 hne
  have hb3 : W3.heap.size = w1.heap.size + 1 := by rw [hbut3.size, hs2]
  have k0 : W3.cell? ⟨bo, 0, none⟩ = some (.slice (some ⟨br, 0, none⟩) n n) := by simpa using ho3.cell (i := 0) (by omega)
  have k1 : W3.cell? ⟨br, i * 3, none⟩ = some (.slice (some ⟨bi, 0, none⟩) Li Li) := by rw [Nat.mul_comm]; rw [hr3.cell (i := 3 * i) (by omega), hf]
  have k2 : W3.frozen? ⟨br, i * 3, none⟩ = false := hr3.frozen _
  have k3 : W3.frozen? ⟨bo, 0, none⟩ = false := ho3.frozen _
  have d1' : ¬ br = bo := fun h => d1 h.symm
  clear hcl g0' g1'
  obtain ⟨i43, hi43, hz430, hz431, hz432⟩ := info_parts Try.info43
  go_wp2_with (at_builtin; refine wpList_append_grows _ rfl _ _ 39 rfl 43 i43 (.agg #[.slice none 0 0, .slice none 0 0, .slice none 0 0]) 3 72 Try.underlying39 hi43 hz430 hz431 hz432 rfl (by decide) (some ⟨br, 0, none⟩) n n ((List.range (3 * n)).map fun m => if m = i * 3 then .slice (some ⟨bi, 0, none⟩) 128 Li else f m) rfl ?c1 ?c2 ?c3 _ 1 1 [.slice none 0 0, .slice none 0 0, .slice none 0 0] rfl ?c4 ?c5 ?c6 ?c7 ?c8 ?c9 ?_)
  case c1 => intro h; cases h
  case c2 => simp; omega
  case c3 =>
    intro b e j u hj
    obtain rfl := Option.some.inj e
    obtain ⟨hjl, rfl⟩ : j < 3 * n ∧ (if j = i * 3 then Value.slice (some ⟨bi, 0, none⟩) 128 Li else f j) = u := by
      rw [List.getElem?_map] at hj
      obtain ⟨k, hk1, rfl⟩ := Option.map_eq_some_iff.1 hj
      obtain ⟨h1, h2⟩ := List.getElem?_eq_some_iff.1 hk1
      simp at h1 h2
      subst h2
      exact ⟨h1, rfl⟩
    rw [Addr.add_lit, Nat.zero_add]
    exact ((hr3.set (i * 3) _).alloc _).cell hjl
  case c4 => rfl
  case c5 =>
    intro j u hj
    have hnew := World.rowIs_alloc (W3.setCell ⟨br, i * 3, none⟩ (.slice (some ⟨bi, 0, none⟩) 128 Li)) #[.slice none 0 0, .slice none 0 0, .slice none 0 0] 43 (fun _ => .slice none 0 0) (fun m hm => by
      match m, hm with
      | 0, _ => rfl
      | 1, _ => rfl
      | 2, _ => rfl)
    rw [nblk_setCell, hb3] at hnew
    rw [Addr.add_lit, Nat.zero_add]
    match j, hj with
    | 0, hj => rw [hnew.cell (by decide)]; simpa using hj
    | 1, hj => rw [hnew.cell (by decide)]; simpa using hj
    | 2, hj => rw [hnew.cell (by decide)]; simpa using hj
    | j + 3, hj => simp at hj
  case c6 => intro u hu; simp at hu; subst hu; rfl
  case c7 => omega
  case c8 => unfold maxLen; omega
  case c9 => omega
  intro v5 w5 hown5 hgr5
  obtain ⟨g, cap, f5, hv5, hg5, hcap, hcap2, hrow5, hf5⟩ := owned_row hown5
  rw [hv5]
  clear hv5 hown5
  have ho5 : w5.rowIs bo 41 3 (fun m => if m = 0 then .slice (some ⟨br, 0, none⟩) n n else if m = 1 then .int .i64 first else .string root) :=
    ((ho3.setOther (a := ⟨br, i * 3, none⟩) d1 _).alloc _).of_block (hgr5.block bo (by simp; omega) (by simp))
  have hu5 : w5.rowIs w1.heap.size 43 3 (fun m => if m = 0 then .slice au (Li - 128) cu else .slice none 0 0) :=
    ((hu3.setOther (a := ⟨br, i * 3, none⟩) (by show w1.heap.size ≠ br; omega) _).alloc _).of_block (hgr5.block _ (by simp; omega) (by simp))
  have hk5 := ((hk3.setOther (a := ⟨br, i * 3, none⟩) (fun h => d3 h.symm) (.slice (some ⟨bi, 0, none⟩) 128 Li)).alloc (.cells #[.slice none 0 0, .slice none 0 0, .slice none 0 0] 43)).of_block (hgr5.block bi (by simp; omega) (by simp))
  have m0 : w5.cell? ⟨bo, 0, none⟩ = some (.slice (some ⟨br, 0, none⟩) n n) := by simpa using ho5.cell (i := 0) (by omega)
  have m1 : w5.frozen? ⟨bo, 0, none⟩ = false := ho5.frozen 0
  clear k0 k1 k2 k3
  go_wp2_with fail
  obtain ⟨W6, hW6⟩ : ∃ W6, W6 = w5.setCell ⟨bo, 0, none⟩ (.slice (some ⟨g, 0, none⟩) (n + 1) cap) := ⟨_, rfl⟩
  rw [← hW6]
  have hgbo : g ≠ bo := by omega
  have ho6 : W6.rowIs bo 41 3 (fun m => if m = 0 then .slice (some ⟨g, 0, none⟩) (n + 1) cap else if m = 1 then .int .i64 first else .string root) := by
    rw [hW6]
    refine (ho5.set 0 _).congr (fun m _ => ?_)
    by_cases e : m = 0
    · rw [if_pos e, if_pos e]
    · rw [if_neg e, if_neg e, if_neg e]
  have hrow6 : W6.rowIs g 43 (cap * 3) f5 := by rw [hW6]; exact hrow5.setOther hgbo _
  have hu6 : W6.rowIs w1.heap.size 43 3 (fun m => if m = 0 then .slice au (Li - 128) cu else .slice none 0 0) := by rw [hW6]; exact hu5.setOther (by show w1.heap.size ≠ bo; omega) _
  have hk6 : W6.rowIs bi 9 Li (over (fun k => Value.string (S k)) 128 (List.replicate (Li - 128) (Value.string ⟨#[]⟩))) := by rw [hW6]; exact hk5.setOther (fun h => d2 h.symm) _
  have hf5' : ∀ m, m < 3 * n → f5 m = if m = i * 3 then Value.slice (some ⟨bi, 0, none⟩) 128 Li else f m := fun m hm => hf5 m _ (by
    rw [List.getElem?_append_left (by simpa using hm)]
    simp [hm])
  have hf5z : ∀ m, 3 * n ≤ m → m < 3 * n + 3 → f5 m = .slice none 0 0 := fun m h1 h2 => hf5 m _ (by
    rw [List.getElem?_append_right (by simpa using h1)]
    simp only [List.length_map, List.length_range]
    obtain h | h | h : m - 3 * n = 0 ∨ m - 3 * n = 1 ∨ m - 3 * n = 2 := by omega
    all_goals rw [h]; rfl)
  obtain ⟨ad1, hsa1, had1⟩ := sliceLow (P := Try.prog) 39 43 3 Try.underlying39 Try.elem39 Try.size43 g 0 (n + 1) cap (i + 2) (by omega)
  obtain ⟨ad2, hsa2, had2⟩ := sliceLow (P := Try.prog) 39 43 3 Try.underlying39 Try.elem39 Try.size43 g 0 (n + 1) cap (i + 1) (by omega)
  have e2 : ((i + 2 : Nat) : Int) = (i : Int) + 2 := by omega
  have e1 : ((i + 1 : Nat) : Int) = (i : Int) + 1 := by omega
  rw [e2] at hsa1
  rw [e1] at hsa2
  obtain ⟨W7, hcp, hrow7, hbut7⟩ := copyRow (P := Try.prog) (w := W6.drew) hrow6.drew 39 39 3 43 3 Try.underlying39 Try.size43 (by decide) (some ad1) (some ad2) (n + 1 - (i + 2)) (cap - (i + 2)) (n + 1 - (i + 1)) (cap - (i + 1)) ((i + 2) * 3)
    ((List.range ((n - i - 1) * 3)).map fun k => f5 ((i + 1) * 3 + k)) (by
      simp only [List.length_map, List.length_range]
      rw [show Nat.min (n + 1 - (i + 1)) (n + 1 - (i + 2)) = n - i - 1 by show min _ _ = _; omega])
    (fun h => by
      simp only [List.length_map, List.length_range] at h
      rw [had1 (by omega), had2 (by omega)]
      refine ⟨by simp, _, rfl, fun j v hj => ?_⟩
      obtain ⟨hjl, rfl⟩ : j < (n - i - 1) * 3 ∧ f5 ((i + 1) * 3 + j) = v := by
        rw [List.getElem?_map] at hj
        obtain ⟨k, hk1, rfl⟩ := Option.map_eq_some_iff.1 hj
        obtain ⟨h1, h2⟩ := List.getElem?_eq_some_iff.1 hk1
        simp at h1 h2
        subst h2
        exact ⟨h1, rfl⟩
      rw [Addr.add_lit, Nat.zero_add]
      exact hrow6.drew.cell (by omega)) (by simp; omega)
    (fun v hv => by
      obtain ⟨k, hk1, rfl⟩ := List.mem_map.1 hv
      simp at hk1
      rw [hf5' _ (by omega)]
      split
      · rfl
      · exact hone _ (by omega))
  have n0 : W6.cell? ⟨bo, 0, none⟩ = some (.slice (some ⟨g, 0, none⟩) (n + 1) cap) := by simpa using ho6.cell (i := 0) (by omega)
  have hsm6 : ∀ b, b < w1.heap.size + 1 → b ≠ bo → b ≠ br → b ≠ bi → W6.heap[b]? = W2.heap[b]? := by
    intro b h1 h2 h3 h4
    rw [hW6, blk_setCell_other _ _ _ _ h2, hgr5.block b (by simp; omega) (by simp), blk_alloc_lt _ _ _ (by simp; omega), blk_setCell_other _ _ _ _ h3, hbut3.block b h4]
  have hmt6 : W6.os = w.os ∧ W6.tape = w.tape ∧ W6.output = w.output := by
    have e1 : w5.os = W3.os := hgr5.os
    have e2 : w5.tape = W3.tape := hgr5.tape
    have e3 : w5.output = W3.output := hgr5.output
    have e4 : W6.os = w5.os := by rw [hW6]; rfl
    have e5 : W6.tape = w5.tape := by rw [hW6]; rfl
    have e6 : W6.output = w5.output := by rw [hW6]; rfl
    exact ⟨by rw [e4, e1, hbut3.os, hb2.os], by rw [e5, e2, hbut3.tape, hb2.tape], by rw [e6, e3, hbut3.output, hb2.output]⟩
  have hsz6 : w1.heap.size + 2 ≤ W6.heap.size := by
    have := hgr5.size
    rw [hW6, nblk_setCell]
    rw [nblk_alloc, nblk_setCell] at this
    omega
  clear hW6 e1 e2 m0 m1 hsl
  have a1 := wrap_in ((i : Int) + 1) (by omega) (by omega)
  have a2 := wrap_in ((i : Int) + 2) (by omega) (by omega)
  have Hcp := hcp
  clear hcp
  go_region_law (refine step_copy rfl (.tmp 48) (.tmp 55) 39 39 rfl _ _ _ (by simp [Act.eval, Act.put]) (by simp [Act.eval, Act.put]) W7 Hcp ?_)
  all_goals clear Hcp hsa1 hsa2 had1 had2 n0
  all_goals
    have ho7 := hbut7.row ho6.drew (fun h => hgbo h.symm)
    have hu7 := hbut7.row hu6.drew (by omega)
    have hk7 := hbut7.row hk6.drew (by omega)
    have p0 : W7.cell? ⟨w1.heap.size, 0, none⟩ = some (.slice au (Li - 128) cu) := by simpa using hu7.cell (i := 0) (by omega)
    have p1 : W7.cell? ⟨w1.heap.size, 1, none⟩ = some (.slice none 0 0) := by simpa using hu7.cell (i := 1) (by omega)
    have p2 : W7.cell? ⟨w1.heap.size, 2, none⟩ = some (.slice none 0 0) := by simpa using hu7.cell (i := 2) (by omega)
    have p3 : W7.cell? ⟨bo, 0, none⟩ = some (.slice (some ⟨g, 0, none⟩) (n + 1) cap) := by simpa using ho7.cell (i := 0) (by omega)
    have p4 := hrow7.cell (i := (i + 1) * 3) (by omega)
    have p5 := hrow7.cell (i := (i + 1) * 3 + 1) (by omega)
    have p6 := hrow7.cell (i := (i + 1) * 3 + 2) (by omega)
    have p7 := hrow7.frozen ((i + 1) * 3)
    have p8 := hrow7.frozen ((i + 1) * 3 + 1)
    have p9 := hrow7.frozen ((i + 1) * 3 + 2)
    go_wp2_with fail
    go_big_region
  all_goals
    go_end0
    refine ⟨rfl, g, cap, au, cu, ?_⟩
    have hlast := ((hrow7.set ((i + 1) * 3) (.slice au (Li - 128) cu)).set ((i + 1) * 3 + 1) (.slice none 0 0)).set ((i + 1) * 3 + 2) (.slice none 0 0)
    have hblk : ∀ b, b ≠ g → ((((W7.setCell ⟨g, (i + 1) * 3, none⟩ (.slice au (Li - 128) cu)).setCell ⟨g, (i + 1) * 3 + 1, none⟩ (.slice none 0 0)).setCell ⟨g, (i + 1) * 3 + 2, none⟩ (.slice none 0 0)).drew).heap[b]? = W6.heap[b]? := by
      intro b hb
      show (((W7.setCell ⟨g, (i + 1) * 3, none⟩ (.slice au (Li - 128) cu)).setCell ⟨g, (i + 1) * 3 + 1, none⟩ (.slice none 0 0)).setCell ⟨g, (i + 1) * 3 + 2, none⟩ (.slice none 0 0)).heap[b]? = _
      rw [blk_setCell_other _ _ _ _ hb, blk_setCell_other _ _ _ _ hb, blk_setCell_other _ _ _ _ hb, hbut7.block b hb]
      rfl
    have hszw : ((((W7.setCell ⟨g, (i + 1) * 3, none⟩ (.slice au (Li - 128) cu)).setCell ⟨g, (i + 1) * 3 + 1, none⟩ (.slice none 0 0)).setCell ⟨g, (i + 1) * 3 + 2, none⟩ (.slice none 0 0)).drew).heap.size = W6.heap.size := by
      show (((W7.setCell ⟨g, (i + 1) * 3, none⟩ (.slice au (Li - 128) cu)).setCell ⟨g, (i + 1) * 3 + 1, none⟩ (.slice none 0 0)).setCell ⟨g, (i + 1) * 3 + 2, none⟩ (.slice none 0 0)).heap.size = _
      rw [nblk_setCell, nblk_setCell, nblk_setCell, hbut7.size]
      rfl
    exact ⟨ho6.of_block (hblk bo (fun h => hgbo h.symm)),
      fun m hm => by
        have := hlast.drew.cell (i := m) (by omega)
        rw [fin_eq hi hf5' m hm] at this
        exact this,
      by omega, hlast.drew.lt,
      fun k hk => by
        obtain ⟨b, e, h1, h2, h3⟩ := hel2 k hk
        refine ⟨b, e, h1, by rw [hszw]; omega, ?_⟩
        rw [← h3]
        exact World.cell?_of_block (w := W2) ((hblk b (by omega)).trans (hsm6 b (by omega) (by omega) (by omega) (by omega))),
      hnil1,
      fun k hk => by
        have := (hk6.of_block (hblk bi (by omega))).cell (i := k) (by omega)
        rw [this, over, if_neg (by omega)],
      fun b h1 h2 h3 h4 => (hblk b (by omega)).trans ((hsm6 b (by omega) h2 h3 h4).trans (hb2.block b h1)),
      hbut7.os.trans hmt6.1, hbut7.tape.trans hmt6.2.1, hbut7.output.trans hmt6.2.2, by rw [hszw]; omega⟩

end Go.Proofs.Qxb6618050a
