/-
  Statements 4 and 5: function 30, (*reach).grow.
-/
import Derived.Test.Qxb6619590aGrVisit
namespace Go.Proofs.Qxb6619590a
open Go.RowKit Go.Deep Go.Maps

/-- A reach, some values. -/
def RA (w : World) (g : GA) (br : Nat) (rn : List Nat) (S : Nat → Bool) (wk : Nat) : Prop := ∃ vn few many, RS w g br rn S wk vn few many

/-- The four boxes, laid. -/
def boxed (w : World) (g : GA) (br : Nat) : World :=
  (((w.alloc (.cells #[.pointer (some ⟨br, 0, none⟩)] 44)).alloc (.cells #[.pointer (some ⟨g.bg, 0, none⟩)] 28)).alloc (.cells #[.int .i64 (g.d : Int)] 69)).alloc (.cells #[.int .i64 0] 3)

theorem row_new (w : World) (v : Value) (t : TypeId) : (w.alloc (.cells #[v] t)).rowIs w.heap.size t 1 (fun _ => v) :=
  World.rowIs_alloc w #[v] t (fun _ => v) (fun i hi => by
    obtain rfl : i = 0 := by simpa using hi
    rfl)

theorem boxed_vs {w : World} {g : GA} {br : Nat} {rn : List Nat} {S : Nat → Bool} {wk : Nat} (h : RA w g br rn S wk) : VS (boxed w g br) g br w.heap.size rn S wk 0 ∧ Below br w (boxed w g br) := by
  obtain ⟨vn, few, many, h⟩ := h
  have hlt := h.row.lt
  have r1 := row_new w (.pointer (some ⟨br, 0, none⟩)) 44
  have r2 := row_new (w.alloc (.cells #[.pointer (some ⟨br, 0, none⟩)] 44)) (.pointer (some ⟨g.bg, 0, none⟩)) 28
  have r3 := row_new ((w.alloc (.cells #[.pointer (some ⟨br, 0, none⟩)] 44)).alloc (.cells #[.pointer (some ⟨g.bg, 0, none⟩)] 28)) (.int .i64 (g.d : Int)) 69
  have r4 := row_new (((w.alloc (.cells #[.pointer (some ⟨br, 0, none⟩)] 44)).alloc (.cells #[.pointer (some ⟨g.bg, 0, none⟩)] 28)).alloc (.cells #[.int .i64 (g.d : Int)] 69)) (.int .i64 0) 3
  simp only [nblk_alloc] at r2 r3 r4
  exact ⟨⟨⟨vn, few, many, (((h.row.alloc _).alloc _).alloc _).alloc _, (((h.own.alloc _).alloc _).alloc _).alloc _, (((h.set.alloc _).alloc _).alloc _).alloc _, h.len, h.lt⟩, ((r1.alloc _).alloc _).alloc _, (r2.alloc _).alloc _, r3.alloc _, r4⟩,
    ((((Below.refl br w).alloc (by omega) _).alloc (by rw [nblk_alloc]; omega) _).alloc (by rw [nblk_alloc, nblk_alloc]; omega) _).alloc (by rw [nblk_alloc, nblk_alloc, nblk_alloc]; omega) _⟩

def hit (g : GA) (goal : Int) (rn : List Nat) : Bool := g.on goal && hh rn (g.ix goal)

/-- T's stages from a on are grow's rounds. -/
def Stages (g : GA) (T : Nat → List Nat) : Prop := ∀ t (h : t < (T t).length), T (t + 1) = vis g (T t)[t] (T t)

/-- From a to b every round goes on. -/
def Live (g : GA) (goal : Int) (T : Nat → List Nat) (a b : Nat) : Prop := ∀ t, a ≤ t → t < b → t < (T t).length ∧ hit g goal (T t) = false

/-- The edges followed by the first b rounds. -/
def walkSum (g : GA) (T : Nat → List Nat) : Nat → Nat
  | 0 => 0
  | t + 1 => walkSum g T t + deg g ((T t).getD t 0)

theorem mm_src (rn : List Nat) (S : Nat → Bool) (k : Nat) : metWith (mm rn S) k = mm rn (metWith S k) := by
  funext j
  simp [metWith, mm, Bool.or_assoc]

/-- Behind add(k, false). -/
theorem rs_source {w w1 : World} {g : GA} {br b fol : Nat} {rn : List Nat} {S : Nat → Bool} {wk : Nat} {vn few many : Value} (h : RS w g br rn S wk vn few many) (hx : Bx w g br b fol) {k : Nat} (hk : k < g.n)
    (ha : AddIs w br g.n (cnt (mm rn S) g.n) wk (mm rn S) (hh rn) k false vn w1) : VS w1 g br b rn (metWith S k) wk fol := by
  obtain ⟨hb, hl, few', many', hrow, hset⟩ := ha
  have hcnt : cntWith (mm rn S) (cnt (mm rn S) g.n) k = cnt (mm rn (metWith S k)) g.n := by rw [← mm_src, cnt_with _ hk]
  rw [hcnt] at hrow hset
  rw [mm_src, heldWith_false] at hset
  exact ⟨⟨vn, few', many', hrow, hl.owns h.own (by decide) (by decide), hset, h.len, h.lt⟩, hx.lies hl⟩

/-- Behind r.walked++. -/
theorem vs_walked {w : World} {g : GA} {br b : Nat} {rn : List Nat} {S : Nat → Bool} {wk fol : Nat} (h : VS w g br b rn S wk fol) (hbb : br < b) : VS (w.setCell ⟨br, 4, none⟩ (.int .i64 ((wk : Int) + 1))) g br b rn S (wk + 1) fol := by
  obtain ⟨⟨vn, few, many, hR⟩, hX⟩ := h
  exact ⟨⟨vn, few, many, row_4 (wk' := wk + 1) hR.row, own_setOther hR.own hR.row (by decide) _ _, hR.set.setRow hR.row (by decide) _ _, hR.len, hR.lt⟩,
    hX.xr.setOther (a := ⟨br, 4, none⟩) (by show b ≠ br; omega) _, hX.xg.setOther (a := ⟨br, 4, none⟩) (by show b + 1 ≠ br; omega) _, hX.xd.setOther (a := ⟨br, 4, none⟩) (by show b + 2 ≠ br; omega) _, hX.xf.setOther (a := ⟨br, 4, none⟩) (by show b + 3 ≠ br; omega) _⟩

theorem vs_len {w : World} {g : GA} {br b : Nat} {rn : List Nat} {S : Nat → Bool} {wk fol : Nat} (h : VS w g br b rn S wk fol) : rn.length ≤ g.n := by
  obtain ⟨⟨vn, few, many, hR⟩, hX⟩ := h
  rw [hR.len]
  exact cnt_le _ _

/-- What a slice that owns i32's looks like. -/
theorem own_form {w : World} {base : Nat} {v : Value} {n : Nat} {xs : List Value} (h : w.ownsRow base 21 1 v n xs) : ∃ ao cap, v = .slice ao n cap ∧ ∀ j (hj : j < xs.length), ∃ gb, ao = some ⟨gb, 0, none⟩ ∧ w.cell? ⟨gb, j, none⟩ = some xs[j] := by
  have hl := h.1
  have h' := h
  obtain ⟨_, ⟨rfl, rfl⟩ | ⟨gb, cap, cur, rfl, _⟩⟩ := h'
  · exact ⟨none, 0, rfl, fun j hj => by omega⟩
  · refine ⟨some ⟨gb, 0, none⟩, cap, rfl, fun j hj => ⟨gb, rfl, ?_⟩⟩
    have := h.cellAt j (by omega)
    rw [this, List.getElem?_eq_getElem hj]

theorem res30 (tmps : Array Value) (w : World) (B : Nat) (x : Int) (hp : tmps.getD 10 undef = .pointer (some ⟨B, 0, none⟩)) (hc : w.cell? ⟨B, 0, none⟩ = some (.int .i64 x)) :
    (results Try.f30 tmps).run Try.prog w = .ok (.int .i64 x) w := by
  have hp' : tmps[10]?.getD undef = .pointer (some ⟨B, 0, none⟩) := by simpa using hp
  simp [results, Try.results30, hp', asAddr, go_sem, hc]

theorem ra_setbox {w : World} {g : GA} {br b : Nat} {rn : List Nat} {S : Nat → Bool} {wk fol : Nat} (h : VS w g br b rn S wk fol) (q : Nat) (v : Value) : RA ((w.drewN q).setCell ⟨b + 1 + 1 + 1, 0, none⟩ v) g br rn S wk := by
  obtain ⟨⟨vn, few, many, h⟩, hX⟩ := h
  have h0 := h.drewN q
  have hx := hX.drewN q
  exact ⟨vn, few, many, h0.row.setOther (a := ⟨b + 3, 0, none⟩) (row_ne h0.row hx.xf (by decide)) _, own_setOther h0.own hx.xf (by decide) _ _, h0.set.setRow hx.xf (by decide) _ _, h0.len, h0.lt⟩

theorem cell_setbox {w : World} {g : GA} {br b fol : Nat} (hX : Bx w g br b fol) (q : Nat) (v : Value) : ((w.drewN q).setCell ⟨b + 1 + 1 + 1, 0, none⟩ v).cell? ⟨b + 1 + 1 + 1, 0, none⟩ = some v := by
  have := ((hX.drewN q).xf.set 0 v).cell (i := 0) (by decide)
  simpa using this

set_option maxRecDepth 100000 in
set_option maxHeartbeats 2000000 in
theorem grow_any (w : World) (g : GA) (br : Nat) (rn : List Nat) (S S' : Nat → Bool) (a : Nat) (ha : a ≤ 1000000) (T : Nat → List Nat) (f0 : Nat) (node goal : Int) (hn0 : -2147483648 ≤ node) (hn1 : node ≤ 2147483647) (hg0 : -2147483648 ≤ goal) (hg1 : goal ≤ 2147483647)
    (hg : g.Ok) (hG : Gph w (· < br) g) (hR : RA w g br rn S a) (hT : Stages g T)
    (hst : ((g.on node = false ∨ mm rn S (g.ix node) = true) ∧ T a = rn ∧ S' = S ∧ f0 = 0) ∨ (g.on node = true ∧ mm rn S (g.ix node) = false ∧ T a = vis g (g.ix node) rn ∧ S' = metWith S (g.ix node) ∧ f0 = deg g (g.ix node))) :
    Calls Try.prog 30 #[.pointer (some ⟨br, 0, none⟩), .pointer (some ⟨g.bg, 0, none⟩), .int .i32 node, .int .i64 (g.d : Int), .int .i32 goal] w fun e w' =>
      ∃ b, a ≤ b ∧ Live g goal T a b ∧ ((T b).length ≤ b ∨ hit g goal (T b) = true) ∧ e = .returned (.int .i64 ((f0 + (walkSum g T b - walkSum g T a) : Nat) : Int)) ∧ Below br w w' ∧ RA w' g br (T b) S' b := by
  obtain ⟨hV, hB⟩ := boxed_vs hR
  have hn := hg.n1
  have hbb : br < w.heap.size := by
    obtain ⟨vn, few, many, h⟩ := hR
    exact h.row.lt
  go_enter Try.func30, Try.ntmps30
  go_wp2_with fail
  refine Calls.mono (hG.num node hn0 hn1 _ (Kept.of_below hB)) ?_
  rintro e w1 ⟨rfl, hw1⟩
  replace hw1 : w1 = boxed w g br := hw1
  rw [← hw1] at hV hB
  clear hw1 hR
  generalize w.heap.size = b at hV hbb ⊢
  have hG1 := hG.kept (Kept.of_below hB)
  obtain ⟨⟨vn, few, many, hR⟩, hX⟩ := hV
  have y0 : w1.cell? ⟨b, 0, none⟩ = some (.pointer (some ⟨br, 0, none⟩)) := hX.xr.cell (by decide)
  have y1 : w1.cell? ⟨b + 1, 0, none⟩ = some (.pointer (some ⟨g.bg, 0, none⟩)) := hX.xg.cell (by decide)
  have z1 : w1.cell? ⟨br, 1, none⟩ = some few := hR.row.cell (by decide)
  have z2 : w1.cell? ⟨br, 2, none⟩ = some many := hR.row.cell (by decide)
  have hMH : ∀ j, hh rn j = true → mm rn S j = true := fun j hj => by simp only [mm]; simp only [hh] at hj; rw [hj]; rfl
  have hmet := fun h => met_any w1 hR.set (by omega) hMH (k := g.ix node) h br z1 z2
  have hf0 : f0 ≤ 262144 := by
    rcases hst with ⟨_, _, _, h⟩ | ⟨h1, _, _, _, h⟩
    · omega
    · have h2 := (GA.ix_on h1).1
      have h3 : g.FR (g.ix node + 1) ≤ g.ls := Nat.le_trans (hg.le (g.ix node + 1) g.n (by omega) (Nat.le_refl _)) hg.top
      have h4 := hg.ls1
      unfold deg at h
      omega
  have hbg : g.bg < br := hG.lt
  rcases hst with ⟨h1, hTa, hS, hf⟩ | ⟨hon, hm, hTa, hS, hf⟩
  · have hV2 : VS w1 g br b (T a) S' a f0 := by rw [hTa, hS, hf]; exact ⟨⟨vn, few, many, hR⟩, hX⟩
    have hB2 := hB
    have hG2 := hG1
    cases hon : g.on node with
    | false =>
      clear hmet h1 hTa hS hf hR hX hMH z1 z2
      go_wp2_with fail
      obtain ⟨og, hog'⟩ : ∃ og, og = g.on goal := ⟨_, rfl⟩
      have hnumg := hG.num goal hg0 hg1 _ (Kept.of_below hB2)
      rw [← hog'] at hnumg
      have hog : Hid (og = g.on goal) := hog'
      clear hog'
      refine Calls.mono hnumg ?_
      clear hnumg
      rintro e w5 ⟨rfl, hw5⟩
      rw [hw5]
      clear hw5 y0 y1
      go_wp2_with fail
      go_loopg [16, 17] g.n (fun gh _ _ wr => ∃ c : Nat, a ≤ c ∧ c ≤ a + g.n ∧ gh = a + g.n - c ∧ Below br w wr ∧ VS wr g br b (T c) S' c (f0 + (walkSum g T c - walkSum g T a)) ∧ Live g goal T a c ∧ walkSum g T a ≤ walkSum g T c ∧ walkSum g T c ≤ walkSum g T a + (c - a) * 262144)
      case atStart => exact ⟨a, Nat.le_refl _, by omega, by omega, hB2, by rw [Nat.sub_self]; exact hV2, fun t h1 h2 => by omega, Nat.le_refl _, by omega⟩
      case round =>
        obtain ⟨c, hac, hcn, rfl, hb, hv, hlive, hs1, hs2⟩ := hrel
        clear hV2 hB2
        have hlen := vs_len hv
        have hv' := hv
        obtain ⟨⟨vn, few, many, hR⟩, hX⟩ := hv'
        have y0 : wr.cell? ⟨b, 0, none⟩ = some (.pointer (some ⟨br, 0, none⟩)) := hX.xr.cell (by decide)
        have y1 : wr.cell? ⟨b + 1, 0, none⟩ = some (.pointer (some ⟨g.bg, 0, none⟩)) := hX.xg.cell (by decide)
        have y3 : wr.cell? ⟨b + 1 + 1 + 1, 0, none⟩ = some (.int .i64 ((f0 + (walkSum g T c - walkSum g T a) : Nat) : Int)) := hX.xf.cell (by decide)
        have y3' : wr.frozen? ⟨b + 1 + 1 + 1, 0, none⟩ = false := hX.xf.frozen 0
        have z0 : wr.cell? ⟨br, 0, none⟩ = some vn := hR.row.cell (by decide)
        have z1 : wr.cell? ⟨br, 1, none⟩ = some few := hR.row.cell (by decide)
        have z2 : wr.cell? ⟨br, 2, none⟩ = some many := hR.row.cell (by decide)
        have z4 : wr.cell? ⟨br, 4, none⟩ = some (.int .i64 (c : Int)) := hR.row.cell (by decide)
        have hhold := fun q h => holds_any (wr.drewN q) (hR.set.drewN q) (by omega) (k := g.ix goal) h br z1 z2
        obtain ⟨ao, cap, hvn, hcell⟩ := own_form hR.own
        rw [hvn] at z0
        have hcc := wrap_in ((c : Int) + 1) (by omega) (by omega)
        by_cases hlt : c < (T c).length
        · cases og with
          | false =>
            have hon2 : g.on goal = false := hog.out.symm
            clear hhold
            have hkk : (T c)[c] < g.n := hR.lt _ (List.getElem_mem hlt)
            obtain ⟨gb, hao, hcl⟩ := hcell c (by simpa using hlt)
            subst hao
            have hcl' : wr.cell? ⟨gb, c, none⟩ = some (.int .i32 (g.vN (T c)[c])) := by rw [hcl]; simp
            have hTc := hT c hlt
            have hix := GA.ix_at hg hkk
            have h32 := hg.i32 _ hkk
            have hws : walkSum g T (c + 1) = walkSum g T c + deg g (T c)[c] := by simp [walkSum, List.getD_eq_getElem?_getD, List.getElem?_eq_getElem hlt]
            have hdk : deg g (T c)[c] ≤ 262144 := by
              have h3 : g.FR ((T c)[c] + 1) ≤ g.ls := Nat.le_trans (hg.le ((T c)[c] + 1) g.n (by omega) (Nat.le_refl _)) hg.top
              have h4 := hg.ls1
              unfold deg
              omega
            have hcl2 : (c : Int) < (T c).length := by omega
            have hca : (c - a) * 262144 ≤ 262144 * 262144 := Nat.mul_le_mul (by omega) (Nat.le_refl _)
            have hlv : Live g goal T a (c + 1) := fun t h1 h2 => by
              by_cases e : t = c
              · subst e
                exact ⟨hlt, by simp [hit, hon2]⟩
              · exact hlive t h1 (by omega)
            clear hcl hcell hlive
            generalize (T c)[c] = kk at *
            clear hR hX
            go_wp2_with fail
            go_quiet (fail)
            have hbq : Below br w (wr.drewN nq) := (Kept.of_below hb |>.drewN nq).below
            have hvq := hv.drewN nq
            have hclq : (wr.drewN nq).cell? ⟨gb, c, none⟩ = some (.int .i32 (g.vN kk)) := hcl'
            have Y0 : (wr.drewN nq).cell? ⟨b, 0, none⟩ = some (.pointer (some ⟨br, 0, none⟩)) := y0
            have Y1 : (wr.drewN nq).cell? ⟨b + 1, 0, none⟩ = some (.pointer (some ⟨g.bg, 0, none⟩)) := y1
            have Z0 : (wr.drewN nq).cell? ⟨br, 0, none⟩ = some (.slice (some ⟨gb, 0, none⟩) (T c).length cap) := z0
            have Z4 : (wr.drewN nq).cell? ⟨br, 4, none⟩ = some (.int .i64 (c : Int)) := z4
            go_wp2_with fail
            clear y0 y1 y3 y3' z0 z1 z2 z4 hcl' hb hv
            generalize wr.drewN nq = wq at hbq hvq hclq Y0 Y1 Z0 Z4 ⊢
            have hnum := fun q => hG.num (g.vN kk) h32.1 h32.2 (wq.drewN q) ((Kept.of_below hbq).drewN q)
            rw [hix.1, hix.2] at hnum
            go_quiet ((go_at_call 36; exact Calls.quiet_of_same (hnum _)))
            have hvisit := fun q => visit_any (wq.drewN q) g br b (T c) S' c (f0 + (walkSum g T c - walkSum g T a)) kk hkk hg (hG.kept ((Kept.of_below hbq).drewN q)) (Nat.le_of_lt hbb) (hvq.drewN q) (by omega)
            rw [← hTc] at hvisit
            clear hnum
            go_wp2_with fail
            refine Calls.mono (hvisit _) ?_
            rintro e w6 ⟨rfl, hb6, hv6⟩
            clear hvisit
            have hv7 := vs_walked hv6 hbb
            have hb7 := hbq.trans ((Kept.of_below (Below.refl br wq) |>.drewN _ |>.below).trans hb6)
            obtain ⟨⟨vn', few', many', hR'⟩, hX'⟩ := hv6
            have y0' : w6.cell? ⟨b, 0, none⟩ = some (.pointer (some ⟨br, 0, none⟩)) := hX'.xr.cell (by decide)
            have z4' : w6.cell? ⟨br, 4, none⟩ = some (.int .i64 (c : Int)) := hR'.row.cell (by decide)
            have f4' : w6.frozen? ⟨br, 4, none⟩ = false := hR'.row.frozen 4
            clear hR' hX' Y0 Y1 Z0 Z4 hclq hvq
            have hws' : f0 + (walkSum g T c - walkSum g T a) + deg g kk = f0 + (walkSum g T (c + 1) - walkSum g T a) := by omega
            rw [hws'] at hv7
            go_wp2_with fail
            have hmul : (c + 1 - a) * 262144 = (c - a) * 262144 + 262144 := by rw [show c + 1 - a = (c - a) + 1 by omega, Nat.succ_mul]
            go_roundg (a + g.n - (c + 1))
            case measure => omega
            case rel => exact ⟨c + 1, by omega, by omega, rfl, hb7.setCell (Nat.le_refl _) _, hv7, hlv, by omega, by omega⟩

          | true =>
            have hon2 : g.on goal = true := hog.out.symm
            have hix2 := (GA.ix_on hon2).1
            cases hhit : hh (T c) (g.ix goal) with
            | false =>
              replace hhold := fun q => hhold q hix2
              rw [hhit] at hhold
              have hkk : (T c)[c] < g.n := hR.lt _ (List.getElem_mem hlt)
              obtain ⟨gb, hao, hcl⟩ := hcell c (by simpa using hlt)
              subst hao
              have hcl' : wr.cell? ⟨gb, c, none⟩ = some (.int .i32 (g.vN (T c)[c])) := by rw [hcl]; simp
              have hTc := hT c hlt
              have hix := GA.ix_at hg hkk
              have h32 := hg.i32 _ hkk
              have hws : walkSum g T (c + 1) = walkSum g T c + deg g (T c)[c] := by simp [walkSum, List.getD_eq_getElem?_getD, List.getElem?_eq_getElem hlt]
              have hdk : deg g (T c)[c] ≤ 262144 := by
                have h3 : g.FR ((T c)[c] + 1) ≤ g.ls := Nat.le_trans (hg.le ((T c)[c] + 1) g.n (by omega) (Nat.le_refl _)) hg.top
                have h4 := hg.ls1
                unfold deg
                omega
              have hcl2 : (c : Int) < (T c).length := by omega
              have hca : (c - a) * 262144 ≤ 262144 * 262144 := Nat.mul_le_mul (by omega) (Nat.le_refl _)
              have hlv : Live g goal T a (c + 1) := fun t h1 h2 => by
                by_cases e : t = c
                · subst e
                  exact ⟨hlt, by simp [hit, hon2, hhit]⟩
                · exact hlive t h1 (by omega)
              clear hcl hcell hlive
              generalize (T c)[c] = kk at *
              clear hR hX
              go_wp2_with fail
              go_quiet ((go_at_call 29; exact Calls.quiet_of_same (hhold _)))
              clear hhold
              have hbq : Below br w (wr.drewN nq) := (Kept.of_below hb |>.drewN nq).below
              have hvq := hv.drewN nq
              have hclq : (wr.drewN nq).cell? ⟨gb, c, none⟩ = some (.int .i32 (g.vN kk)) := hcl'
              have Y0 : (wr.drewN nq).cell? ⟨b, 0, none⟩ = some (.pointer (some ⟨br, 0, none⟩)) := y0
              have Y1 : (wr.drewN nq).cell? ⟨b + 1, 0, none⟩ = some (.pointer (some ⟨g.bg, 0, none⟩)) := y1
              have Z0 : (wr.drewN nq).cell? ⟨br, 0, none⟩ = some (.slice (some ⟨gb, 0, none⟩) (T c).length cap) := z0
              have Z4 : (wr.drewN nq).cell? ⟨br, 4, none⟩ = some (.int .i64 (c : Int)) := z4
              go_wp2_with fail
              clear y0 y1 y3 y3' z0 z1 z2 z4 hcl' hb hv
              generalize wr.drewN nq = wq at hbq hvq hclq Y0 Y1 Z0 Z4 ⊢
              have hnum := fun q => hG.num (g.vN kk) h32.1 h32.2 (wq.drewN q) ((Kept.of_below hbq).drewN q)
              rw [hix.1, hix.2] at hnum
              go_quiet ((go_at_call 36; exact Calls.quiet_of_same (hnum _)))
              have hvisit := fun q => visit_any (wq.drewN q) g br b (T c) S' c (f0 + (walkSum g T c - walkSum g T a)) kk hkk hg (hG.kept ((Kept.of_below hbq).drewN q)) (Nat.le_of_lt hbb) (hvq.drewN q) (by omega)
              rw [← hTc] at hvisit
              clear hnum
              go_wp2_with fail
              refine Calls.mono (hvisit _) ?_
              rintro e w6 ⟨rfl, hb6, hv6⟩
              clear hvisit
              have hv7 := vs_walked hv6 hbb
              have hb7 := hbq.trans ((Kept.of_below (Below.refl br wq) |>.drewN _ |>.below).trans hb6)
              obtain ⟨⟨vn', few', many', hR'⟩, hX'⟩ := hv6
              have y0' : w6.cell? ⟨b, 0, none⟩ = some (.pointer (some ⟨br, 0, none⟩)) := hX'.xr.cell (by decide)
              have z4' : w6.cell? ⟨br, 4, none⟩ = some (.int .i64 (c : Int)) := hR'.row.cell (by decide)
              have f4' : w6.frozen? ⟨br, 4, none⟩ = false := hR'.row.frozen 4
              clear hR' hX' Y0 Y1 Z0 Z4 hclq hvq
              have hws' : f0 + (walkSum g T c - walkSum g T a) + deg g kk = f0 + (walkSum g T (c + 1) - walkSum g T a) := by omega
              rw [hws'] at hv7
              go_wp2_with fail
              have hmul : (c + 1 - a) * 262144 = (c - a) * 262144 + 262144 := by rw [show c + 1 - a = (c - a) + 1 by omega, Nat.succ_mul]
              go_roundg (a + g.n - (c + 1))
              case measure => omega
              case rel => exact ⟨c + 1, by omega, by omega, rfl, hb7.setCell (Nat.le_refl _) _, hv7, hlv, by omega, by omega⟩

            | true =>
              replace hhold := fun q => hhold q hix2
              rw [hhit] at hhold
              have hcl2 : (c : Int) < (T c).length := by omega
              clear hcell hR
              go_wp2_with fail
              go_quiet ((go_at_call 29; exact Calls.quiet_of_same (hhold _)))
              go_wp2_with fail
              refine bodyPost_ret (res30 _ _ (b + 1 + 1 + 1) _ rfl (cell_setbox hX _ _)) rfl ⟨c, hac, hlive, .inr (by simp [hit, hon2, hhit]), rfl, (Kept.of_below hb |>.drewN _ |>.below).setCell (by show br ≤ b + 1 + 1 + 1; omega) _, ra_setbox hv _ _⟩

        · have hcl2 : ¬ (c : Int) < (T c).length := by omega
          clear hhold
          clear hcell hR
          go_wp2_with fail
          go_quiet (fail)
          go_wp2_with fail
          refine bodyPost_ret (res30 _ _ (b + 1 + 1 + 1) _ rfl (cell_setbox hX _ _)) rfl ⟨c, hac, hlive, .inl (by omega), rfl, (Kept.of_below hb |>.drewN _ |>.below).setCell (by show br ≤ b + 1 + 1 + 1; omega) _, ra_setbox hv _ _⟩

    | true =>
      have hm : mm rn S (g.ix node) = true := by
        rcases h1 with h | h
        · rw [hon] at h; cases h
        · exact h
      obtain ⟨hix, hvx⟩ := GA.ix_on hon
      have hmet' := hmet hix
      rw [hm] at hmet'
      clear hmet h1 hTa hS hf hR hX hMH hm
      go_wp2_with fail
      refine Calls.mono hmet' ?_
      rintro e w2 ⟨rfl, hw2⟩
      rw [hw2]
      clear hmet' hw2 hix hvx
      go_wp2_with fail
      clear z1 z2
      obtain ⟨og, hog'⟩ : ∃ og, og = g.on goal := ⟨_, rfl⟩
      have hnumg := hG.num goal hg0 hg1 _ (Kept.of_below hB2)
      rw [← hog'] at hnumg
      have hog : Hid (og = g.on goal) := hog'
      clear hog'
      refine Calls.mono hnumg ?_
      clear hnumg
      rintro e w5 ⟨rfl, hw5⟩
      rw [hw5]
      clear hw5 y0 y1
      go_wp2_with fail
      go_loopg [16, 17] g.n (fun gh _ _ wr => ∃ c : Nat, a ≤ c ∧ c ≤ a + g.n ∧ gh = a + g.n - c ∧ Below br w wr ∧ VS wr g br b (T c) S' c (f0 + (walkSum g T c - walkSum g T a)) ∧ Live g goal T a c ∧ walkSum g T a ≤ walkSum g T c ∧ walkSum g T c ≤ walkSum g T a + (c - a) * 262144)
      case atStart => exact ⟨a, Nat.le_refl _, by omega, by omega, hB2, by rw [Nat.sub_self]; exact hV2, fun t h1 h2 => by omega, Nat.le_refl _, by omega⟩
      case round =>
        obtain ⟨c, hac, hcn, rfl, hb, hv, hlive, hs1, hs2⟩ := hrel
        clear hV2 hB2
        have hlen := vs_len hv
        have hv' := hv
        obtain ⟨⟨vn, few, many, hR⟩, hX⟩ := hv'
        have y0 : wr.cell? ⟨b, 0, none⟩ = some (.pointer (some ⟨br, 0, none⟩)) := hX.xr.cell (by decide)
        have y1 : wr.cell? ⟨b + 1, 0, none⟩ = some (.pointer (some ⟨g.bg, 0, none⟩)) := hX.xg.cell (by decide)
        have y3 : wr.cell? ⟨b + 1 + 1 + 1, 0, none⟩ = some (.int .i64 ((f0 + (walkSum g T c - walkSum g T a) : Nat) : Int)) := hX.xf.cell (by decide)
        have y3' : wr.frozen? ⟨b + 1 + 1 + 1, 0, none⟩ = false := hX.xf.frozen 0
        have z0 : wr.cell? ⟨br, 0, none⟩ = some vn := hR.row.cell (by decide)
        have z1 : wr.cell? ⟨br, 1, none⟩ = some few := hR.row.cell (by decide)
        have z2 : wr.cell? ⟨br, 2, none⟩ = some many := hR.row.cell (by decide)
        have z4 : wr.cell? ⟨br, 4, none⟩ = some (.int .i64 (c : Int)) := hR.row.cell (by decide)
        have hhold := fun q h => holds_any (wr.drewN q) (hR.set.drewN q) (by omega) (k := g.ix goal) h br z1 z2
        obtain ⟨ao, cap, hvn, hcell⟩ := own_form hR.own
        rw [hvn] at z0
        have hcc := wrap_in ((c : Int) + 1) (by omega) (by omega)
        by_cases hlt : c < (T c).length
        · cases og with
          | false =>
            have hon2 : g.on goal = false := hog.out.symm
            clear hhold
            have hkk : (T c)[c] < g.n := hR.lt _ (List.getElem_mem hlt)
            obtain ⟨gb, hao, hcl⟩ := hcell c (by simpa using hlt)
            subst hao
            have hcl' : wr.cell? ⟨gb, c, none⟩ = some (.int .i32 (g.vN (T c)[c])) := by rw [hcl]; simp
            have hTc := hT c hlt
            have hix := GA.ix_at hg hkk
            have h32 := hg.i32 _ hkk
            have hws : walkSum g T (c + 1) = walkSum g T c + deg g (T c)[c] := by simp [walkSum, List.getD_eq_getElem?_getD, List.getElem?_eq_getElem hlt]
            have hdk : deg g (T c)[c] ≤ 262144 := by
              have h3 : g.FR ((T c)[c] + 1) ≤ g.ls := Nat.le_trans (hg.le ((T c)[c] + 1) g.n (by omega) (Nat.le_refl _)) hg.top
              have h4 := hg.ls1
              unfold deg
              omega
            have hcl2 : (c : Int) < (T c).length := by omega
            have hca : (c - a) * 262144 ≤ 262144 * 262144 := Nat.mul_le_mul (by omega) (Nat.le_refl _)
            have hlv : Live g goal T a (c + 1) := fun t h1 h2 => by
              by_cases e : t = c
              · subst e
                exact ⟨hlt, by simp [hit, hon2]⟩
              · exact hlive t h1 (by omega)
            clear hcl hcell hlive
            generalize (T c)[c] = kk at *
            clear hR hX
            go_wp2_with fail
            go_quiet (fail)
            have hbq : Below br w (wr.drewN nq) := (Kept.of_below hb |>.drewN nq).below
            have hvq := hv.drewN nq
            have hclq : (wr.drewN nq).cell? ⟨gb, c, none⟩ = some (.int .i32 (g.vN kk)) := hcl'
            have Y0 : (wr.drewN nq).cell? ⟨b, 0, none⟩ = some (.pointer (some ⟨br, 0, none⟩)) := y0
            have Y1 : (wr.drewN nq).cell? ⟨b + 1, 0, none⟩ = some (.pointer (some ⟨g.bg, 0, none⟩)) := y1
            have Z0 : (wr.drewN nq).cell? ⟨br, 0, none⟩ = some (.slice (some ⟨gb, 0, none⟩) (T c).length cap) := z0
            have Z4 : (wr.drewN nq).cell? ⟨br, 4, none⟩ = some (.int .i64 (c : Int)) := z4
            go_wp2_with fail
            clear y0 y1 y3 y3' z0 z1 z2 z4 hcl' hb hv
            generalize wr.drewN nq = wq at hbq hvq hclq Y0 Y1 Z0 Z4 ⊢
            have hnum := fun q => hG.num (g.vN kk) h32.1 h32.2 (wq.drewN q) ((Kept.of_below hbq).drewN q)
            rw [hix.1, hix.2] at hnum
            go_quiet ((go_at_call 36; exact Calls.quiet_of_same (hnum _)))
            have hvisit := fun q => visit_any (wq.drewN q) g br b (T c) S' c (f0 + (walkSum g T c - walkSum g T a)) kk hkk hg (hG.kept ((Kept.of_below hbq).drewN q)) (Nat.le_of_lt hbb) (hvq.drewN q) (by omega)
            rw [← hTc] at hvisit
            clear hnum
            go_wp2_with fail
            refine Calls.mono (hvisit _) ?_
            rintro e w6 ⟨rfl, hb6, hv6⟩
            clear hvisit
            have hv7 := vs_walked hv6 hbb
            have hb7 := hbq.trans ((Kept.of_below (Below.refl br wq) |>.drewN _ |>.below).trans hb6)
            obtain ⟨⟨vn', few', many', hR'⟩, hX'⟩ := hv6
            have y0' : w6.cell? ⟨b, 0, none⟩ = some (.pointer (some ⟨br, 0, none⟩)) := hX'.xr.cell (by decide)
            have z4' : w6.cell? ⟨br, 4, none⟩ = some (.int .i64 (c : Int)) := hR'.row.cell (by decide)
            have f4' : w6.frozen? ⟨br, 4, none⟩ = false := hR'.row.frozen 4
            clear hR' hX' Y0 Y1 Z0 Z4 hclq hvq
            have hws' : f0 + (walkSum g T c - walkSum g T a) + deg g kk = f0 + (walkSum g T (c + 1) - walkSum g T a) := by omega
            rw [hws'] at hv7
            go_wp2_with fail
            have hmul : (c + 1 - a) * 262144 = (c - a) * 262144 + 262144 := by rw [show c + 1 - a = (c - a) + 1 by omega, Nat.succ_mul]
            go_roundg (a + g.n - (c + 1))
            case measure => omega
            case rel => exact ⟨c + 1, by omega, by omega, rfl, hb7.setCell (Nat.le_refl _) _, hv7, hlv, by omega, by omega⟩

          | true =>
            have hon2 : g.on goal = true := hog.out.symm
            have hix2 := (GA.ix_on hon2).1
            cases hhit : hh (T c) (g.ix goal) with
            | false =>
              replace hhold := fun q => hhold q hix2
              rw [hhit] at hhold
              have hkk : (T c)[c] < g.n := hR.lt _ (List.getElem_mem hlt)
              obtain ⟨gb, hao, hcl⟩ := hcell c (by simpa using hlt)
              subst hao
              have hcl' : wr.cell? ⟨gb, c, none⟩ = some (.int .i32 (g.vN (T c)[c])) := by rw [hcl]; simp
              have hTc := hT c hlt
              have hix := GA.ix_at hg hkk
              have h32 := hg.i32 _ hkk
              have hws : walkSum g T (c + 1) = walkSum g T c + deg g (T c)[c] := by simp [walkSum, List.getD_eq_getElem?_getD, List.getElem?_eq_getElem hlt]
              have hdk : deg g (T c)[c] ≤ 262144 := by
                have h3 : g.FR ((T c)[c] + 1) ≤ g.ls := Nat.le_trans (hg.le ((T c)[c] + 1) g.n (by omega) (Nat.le_refl _)) hg.top
                have h4 := hg.ls1
                unfold deg
                omega
              have hcl2 : (c : Int) < (T c).length := by omega
              have hca : (c - a) * 262144 ≤ 262144 * 262144 := Nat.mul_le_mul (by omega) (Nat.le_refl _)
              have hlv : Live g goal T a (c + 1) := fun t h1 h2 => by
                by_cases e : t = c
                · subst e
                  exact ⟨hlt, by simp [hit, hon2, hhit]⟩
                · exact hlive t h1 (by omega)
              clear hcl hcell hlive
              generalize (T c)[c] = kk at *
              clear hR hX
              go_wp2_with fail
              go_quiet ((go_at_call 29; exact Calls.quiet_of_same (hhold _)))
              clear hhold
              have hbq : Below br w (wr.drewN nq) := (Kept.of_below hb |>.drewN nq).below
              have hvq := hv.drewN nq
              have hclq : (wr.drewN nq).cell? ⟨gb, c, none⟩ = some (.int .i32 (g.vN kk)) := hcl'
              have Y0 : (wr.drewN nq).cell? ⟨b, 0, none⟩ = some (.pointer (some ⟨br, 0, none⟩)) := y0
              have Y1 : (wr.drewN nq).cell? ⟨b + 1, 0, none⟩ = some (.pointer (some ⟨g.bg, 0, none⟩)) := y1
              have Z0 : (wr.drewN nq).cell? ⟨br, 0, none⟩ = some (.slice (some ⟨gb, 0, none⟩) (T c).length cap) := z0
              have Z4 : (wr.drewN nq).cell? ⟨br, 4, none⟩ = some (.int .i64 (c : Int)) := z4
              go_wp2_with fail
              clear y0 y1 y3 y3' z0 z1 z2 z4 hcl' hb hv
              generalize wr.drewN nq = wq at hbq hvq hclq Y0 Y1 Z0 Z4 ⊢
              have hnum := fun q => hG.num (g.vN kk) h32.1 h32.2 (wq.drewN q) ((Kept.of_below hbq).drewN q)
              rw [hix.1, hix.2] at hnum
              go_quiet ((go_at_call 36; exact Calls.quiet_of_same (hnum _)))
              have hvisit := fun q => visit_any (wq.drewN q) g br b (T c) S' c (f0 + (walkSum g T c - walkSum g T a)) kk hkk hg (hG.kept ((Kept.of_below hbq).drewN q)) (Nat.le_of_lt hbb) (hvq.drewN q) (by omega)
              rw [← hTc] at hvisit
              clear hnum
              go_wp2_with fail
              refine Calls.mono (hvisit _) ?_
              rintro e w6 ⟨rfl, hb6, hv6⟩
              clear hvisit
              have hv7 := vs_walked hv6 hbb
              have hb7 := hbq.trans ((Kept.of_below (Below.refl br wq) |>.drewN _ |>.below).trans hb6)
              obtain ⟨⟨vn', few', many', hR'⟩, hX'⟩ := hv6
              have y0' : w6.cell? ⟨b, 0, none⟩ = some (.pointer (some ⟨br, 0, none⟩)) := hX'.xr.cell (by decide)
              have z4' : w6.cell? ⟨br, 4, none⟩ = some (.int .i64 (c : Int)) := hR'.row.cell (by decide)
              have f4' : w6.frozen? ⟨br, 4, none⟩ = false := hR'.row.frozen 4
              clear hR' hX' Y0 Y1 Z0 Z4 hclq hvq
              have hws' : f0 + (walkSum g T c - walkSum g T a) + deg g kk = f0 + (walkSum g T (c + 1) - walkSum g T a) := by omega
              rw [hws'] at hv7
              go_wp2_with fail
              have hmul : (c + 1 - a) * 262144 = (c - a) * 262144 + 262144 := by rw [show c + 1 - a = (c - a) + 1 by omega, Nat.succ_mul]
              go_roundg (a + g.n - (c + 1))
              case measure => omega
              case rel => exact ⟨c + 1, by omega, by omega, rfl, hb7.setCell (Nat.le_refl _) _, hv7, hlv, by omega, by omega⟩

            | true =>
              replace hhold := fun q => hhold q hix2
              rw [hhit] at hhold
              have hcl2 : (c : Int) < (T c).length := by omega
              clear hcell hR
              go_wp2_with fail
              go_quiet ((go_at_call 29; exact Calls.quiet_of_same (hhold _)))
              go_wp2_with fail
              refine bodyPost_ret (res30 _ _ (b + 1 + 1 + 1) _ rfl (cell_setbox hX _ _)) rfl ⟨c, hac, hlive, .inr (by simp [hit, hon2, hhit]), rfl, (Kept.of_below hb |>.drewN _ |>.below).setCell (by show br ≤ b + 1 + 1 + 1; omega) _, ra_setbox hv _ _⟩

        · have hcl2 : ¬ (c : Int) < (T c).length := by omega
          clear hhold
          clear hcell hR
          go_wp2_with fail
          go_quiet (fail)
          go_wp2_with fail
          refine bodyPost_ret (res30 _ _ (b + 1 + 1 + 1) _ rfl (cell_setbox hX _ _)) rfl ⟨c, hac, hlive, .inl (by omega), rfl, (Kept.of_below hb |>.drewN _ |>.below).setCell (by show br ≤ b + 1 + 1 + 1; omega) _, ra_setbox hv _ _⟩

  · obtain ⟨hix, hvx⟩ := GA.ix_on hon
    have hmet' := hmet hix
    rw [hm] at hmet'
    rw [hon]
    have hadd := fun q => add_any (w1.drewN q) br g.bg g.n (cnt (mm rn S) g.n) a (mm rn S) (hh rn) (g.ix node) false vn few many g.aN hn hix (cnt_le _ _) hMH hG1.c0 hG.lt hR.row (hR.set.drewN q)
    have hsrc := fun q w' => rs_source (w1 := w') (hR.drewN q) (hX.drewN q) hix
    clear hmet
    go_wp2_with fail
    refine Calls.mono hmet' ?_
    rintro e w2 ⟨rfl, hw2⟩
    rw [hw2]
    clear hmet' hw2
    go_wp2_with fail
    go_region_with (go_at_call 27; refine Calls.mono (hadd 1) ?_; rintro e w3 ⟨rfl, hA⟩)
    all_goals
      have hV3 := hsrc 1 w3 hA
      have hB3 : Below br w w3 := hB.trans ((Kept.of_below (Below.refl br w1) |>.drewN 1 |>.below).trans hA.1)
      have hG3 := hG.kept (Kept.of_below hB3)
      clear hsrc hadd hA hR hX hMH z1 z2
      go_wp2_with fail
      refine Calls.mono (visit_any w3 g br b rn (metWith S (g.ix node)) a 0 (g.ix node) hix hg hG3 (Nat.le_of_lt hbb) hV3 (by omega)) ?_
      rintro e w4 ⟨rfl, hb4, hv4⟩
      have hV2 : VS w4 g br b (T a) S' a f0 := by rw [hTa, hS, hf]; rw [Nat.zero_add] at hv4; exact hv4
      have hB2 := hB3.trans hb4
      have y1 : w4.cell? ⟨b + 1, 0, none⟩ = some (.pointer (some ⟨g.bg, 0, none⟩)) := hV2.2.xg.cell (by decide)
      clear hv4 hb4 hV3 hB3 hG3 hTa hS hf hix hvx hm
      go_wp2_with fail
      obtain ⟨og, hog'⟩ : ∃ og, og = g.on goal := ⟨_, rfl⟩
      have hnumg := hG.num goal hg0 hg1 _ (Kept.of_below hB2)
      rw [← hog'] at hnumg
      have hog : Hid (og = g.on goal) := hog'
      clear hog'
      refine Calls.mono hnumg ?_
      clear hnumg
      rintro e w5 ⟨rfl, hw5⟩
      rw [hw5]
      clear hw5 y0 y1
      go_wp2_with fail
      go_loopg [16, 17] g.n (fun gh _ _ wr => ∃ c : Nat, a ≤ c ∧ c ≤ a + g.n ∧ gh = a + g.n - c ∧ Below br w wr ∧ VS wr g br b (T c) S' c (f0 + (walkSum g T c - walkSum g T a)) ∧ Live g goal T a c ∧ walkSum g T a ≤ walkSum g T c ∧ walkSum g T c ≤ walkSum g T a + (c - a) * 262144)
      case atStart => exact ⟨a, Nat.le_refl _, by omega, by omega, hB2, by rw [Nat.sub_self]; exact hV2, fun t h1 h2 => by omega, Nat.le_refl _, by omega⟩
      case round =>
        obtain ⟨c, hac, hcn, rfl, hb, hv, hlive, hs1, hs2⟩ := hrel
        clear hV2 hB2
        have hlen := vs_len hv
        have hv' := hv
        obtain ⟨⟨vn, few, many, hR⟩, hX⟩ := hv'
        have y0 : wr.cell? ⟨b, 0, none⟩ = some (.pointer (some ⟨br, 0, none⟩)) := hX.xr.cell (by decide)
        have y1 : wr.cell? ⟨b + 1, 0, none⟩ = some (.pointer (some ⟨g.bg, 0, none⟩)) := hX.xg.cell (by decide)
        have y3 : wr.cell? ⟨b + 1 + 1 + 1, 0, none⟩ = some (.int .i64 ((f0 + (walkSum g T c - walkSum g T a) : Nat) : Int)) := hX.xf.cell (by decide)
        have y3' : wr.frozen? ⟨b + 1 + 1 + 1, 0, none⟩ = false := hX.xf.frozen 0
        have z0 : wr.cell? ⟨br, 0, none⟩ = some vn := hR.row.cell (by decide)
        have z1 : wr.cell? ⟨br, 1, none⟩ = some few := hR.row.cell (by decide)
        have z2 : wr.cell? ⟨br, 2, none⟩ = some many := hR.row.cell (by decide)
        have z4 : wr.cell? ⟨br, 4, none⟩ = some (.int .i64 (c : Int)) := hR.row.cell (by decide)
        have hhold := fun q h => holds_any (wr.drewN q) (hR.set.drewN q) (by omega) (k := g.ix goal) h br z1 z2
        obtain ⟨ao, cap, hvn, hcell⟩ := own_form hR.own
        rw [hvn] at z0
        have hcc := wrap_in ((c : Int) + 1) (by omega) (by omega)
        by_cases hlt : c < (T c).length
        · cases og with
          | false =>
            have hon2 : g.on goal = false := hog.out.symm
            clear hhold
            have hkk : (T c)[c] < g.n := hR.lt _ (List.getElem_mem hlt)
            obtain ⟨gb, hao, hcl⟩ := hcell c (by simpa using hlt)
            subst hao
            have hcl' : wr.cell? ⟨gb, c, none⟩ = some (.int .i32 (g.vN (T c)[c])) := by rw [hcl]; simp
            have hTc := hT c hlt
            have hix := GA.ix_at hg hkk
            have h32 := hg.i32 _ hkk
            have hws : walkSum g T (c + 1) = walkSum g T c + deg g (T c)[c] := by simp [walkSum, List.getD_eq_getElem?_getD, List.getElem?_eq_getElem hlt]
            have hdk : deg g (T c)[c] ≤ 262144 := by
              have h3 : g.FR ((T c)[c] + 1) ≤ g.ls := Nat.le_trans (hg.le ((T c)[c] + 1) g.n (by omega) (Nat.le_refl _)) hg.top
              have h4 := hg.ls1
              unfold deg
              omega
            have hcl2 : (c : Int) < (T c).length := by omega
            have hca : (c - a) * 262144 ≤ 262144 * 262144 := Nat.mul_le_mul (by omega) (Nat.le_refl _)
            have hlv : Live g goal T a (c + 1) := fun t h1 h2 => by
              by_cases e : t = c
              · subst e
                exact ⟨hlt, by simp [hit, hon2]⟩
              · exact hlive t h1 (by omega)
            clear hcl hcell hlive
            generalize (T c)[c] = kk at *
            clear hR hX
            go_wp2_with fail
            go_quiet (fail)
            have hbq : Below br w (wr.drewN nq) := (Kept.of_below hb |>.drewN nq).below
            have hvq := hv.drewN nq
            have hclq : (wr.drewN nq).cell? ⟨gb, c, none⟩ = some (.int .i32 (g.vN kk)) := hcl'
            have Y0 : (wr.drewN nq).cell? ⟨b, 0, none⟩ = some (.pointer (some ⟨br, 0, none⟩)) := y0
            have Y1 : (wr.drewN nq).cell? ⟨b + 1, 0, none⟩ = some (.pointer (some ⟨g.bg, 0, none⟩)) := y1
            have Z0 : (wr.drewN nq).cell? ⟨br, 0, none⟩ = some (.slice (some ⟨gb, 0, none⟩) (T c).length cap) := z0
            have Z4 : (wr.drewN nq).cell? ⟨br, 4, none⟩ = some (.int .i64 (c : Int)) := z4
            go_wp2_with fail
            clear y0 y1 y3 y3' z0 z1 z2 z4 hcl' hb hv
            generalize wr.drewN nq = wq at hbq hvq hclq Y0 Y1 Z0 Z4 ⊢
            have hnum := fun q => hG.num (g.vN kk) h32.1 h32.2 (wq.drewN q) ((Kept.of_below hbq).drewN q)
            rw [hix.1, hix.2] at hnum
            go_quiet ((go_at_call 36; exact Calls.quiet_of_same (hnum _)))
            have hvisit := fun q => visit_any (wq.drewN q) g br b (T c) S' c (f0 + (walkSum g T c - walkSum g T a)) kk hkk hg (hG.kept ((Kept.of_below hbq).drewN q)) (Nat.le_of_lt hbb) (hvq.drewN q) (by omega)
            rw [← hTc] at hvisit
            clear hnum
            go_wp2_with fail
            refine Calls.mono (hvisit _) ?_
            rintro e w6 ⟨rfl, hb6, hv6⟩
            clear hvisit
            have hv7 := vs_walked hv6 hbb
            have hb7 := hbq.trans ((Kept.of_below (Below.refl br wq) |>.drewN _ |>.below).trans hb6)
            obtain ⟨⟨vn', few', many', hR'⟩, hX'⟩ := hv6
            have y0' : w6.cell? ⟨b, 0, none⟩ = some (.pointer (some ⟨br, 0, none⟩)) := hX'.xr.cell (by decide)
            have z4' : w6.cell? ⟨br, 4, none⟩ = some (.int .i64 (c : Int)) := hR'.row.cell (by decide)
            have f4' : w6.frozen? ⟨br, 4, none⟩ = false := hR'.row.frozen 4
            clear hR' hX' Y0 Y1 Z0 Z4 hclq hvq
            have hws' : f0 + (walkSum g T c - walkSum g T a) + deg g kk = f0 + (walkSum g T (c + 1) - walkSum g T a) := by omega
            rw [hws'] at hv7
            go_wp2_with fail
            have hmul : (c + 1 - a) * 262144 = (c - a) * 262144 + 262144 := by rw [show c + 1 - a = (c - a) + 1 by omega, Nat.succ_mul]
            go_roundg (a + g.n - (c + 1))
            case measure => omega
            case rel => exact ⟨c + 1, by omega, by omega, rfl, hb7.setCell (Nat.le_refl _) _, hv7, hlv, by omega, by omega⟩

          | true =>
            have hon2 : g.on goal = true := hog.out.symm
            have hix2 := (GA.ix_on hon2).1
            cases hhit : hh (T c) (g.ix goal) with
            | false =>
              replace hhold := fun q => hhold q hix2
              rw [hhit] at hhold
              have hkk : (T c)[c] < g.n := hR.lt _ (List.getElem_mem hlt)
              obtain ⟨gb, hao, hcl⟩ := hcell c (by simpa using hlt)
              subst hao
              have hcl' : wr.cell? ⟨gb, c, none⟩ = some (.int .i32 (g.vN (T c)[c])) := by rw [hcl]; simp
              have hTc := hT c hlt
              have hix := GA.ix_at hg hkk
              have h32 := hg.i32 _ hkk
              have hws : walkSum g T (c + 1) = walkSum g T c + deg g (T c)[c] := by simp [walkSum, List.getD_eq_getElem?_getD, List.getElem?_eq_getElem hlt]
              have hdk : deg g (T c)[c] ≤ 262144 := by
                have h3 : g.FR ((T c)[c] + 1) ≤ g.ls := Nat.le_trans (hg.le ((T c)[c] + 1) g.n (by omega) (Nat.le_refl _)) hg.top
                have h4 := hg.ls1
                unfold deg
                omega
              have hcl2 : (c : Int) < (T c).length := by omega
              have hca : (c - a) * 262144 ≤ 262144 * 262144 := Nat.mul_le_mul (by omega) (Nat.le_refl _)
              have hlv : Live g goal T a (c + 1) := fun t h1 h2 => by
                by_cases e : t = c
                · subst e
                  exact ⟨hlt, by simp [hit, hon2, hhit]⟩
                · exact hlive t h1 (by omega)
              clear hcl hcell hlive
              generalize (T c)[c] = kk at *
              clear hR hX
              go_wp2_with fail
              go_quiet ((go_at_call 29; exact Calls.quiet_of_same (hhold _)))
              clear hhold
              have hbq : Below br w (wr.drewN nq) := (Kept.of_below hb |>.drewN nq).below
              have hvq := hv.drewN nq
              have hclq : (wr.drewN nq).cell? ⟨gb, c, none⟩ = some (.int .i32 (g.vN kk)) := hcl'
              have Y0 : (wr.drewN nq).cell? ⟨b, 0, none⟩ = some (.pointer (some ⟨br, 0, none⟩)) := y0
              have Y1 : (wr.drewN nq).cell? ⟨b + 1, 0, none⟩ = some (.pointer (some ⟨g.bg, 0, none⟩)) := y1
              have Z0 : (wr.drewN nq).cell? ⟨br, 0, none⟩ = some (.slice (some ⟨gb, 0, none⟩) (T c).length cap) := z0
              have Z4 : (wr.drewN nq).cell? ⟨br, 4, none⟩ = some (.int .i64 (c : Int)) := z4
              go_wp2_with fail
              clear y0 y1 y3 y3' z0 z1 z2 z4 hcl' hb hv
              generalize wr.drewN nq = wq at hbq hvq hclq Y0 Y1 Z0 Z4 ⊢
              have hnum := fun q => hG.num (g.vN kk) h32.1 h32.2 (wq.drewN q) ((Kept.of_below hbq).drewN q)
              rw [hix.1, hix.2] at hnum
              go_quiet ((go_at_call 36; exact Calls.quiet_of_same (hnum _)))
              have hvisit := fun q => visit_any (wq.drewN q) g br b (T c) S' c (f0 + (walkSum g T c - walkSum g T a)) kk hkk hg (hG.kept ((Kept.of_below hbq).drewN q)) (Nat.le_of_lt hbb) (hvq.drewN q) (by omega)
              rw [← hTc] at hvisit
              clear hnum
              go_wp2_with fail
              refine Calls.mono (hvisit _) ?_
              rintro e w6 ⟨rfl, hb6, hv6⟩
              clear hvisit
              have hv7 := vs_walked hv6 hbb
              have hb7 := hbq.trans ((Kept.of_below (Below.refl br wq) |>.drewN _ |>.below).trans hb6)
              obtain ⟨⟨vn', few', many', hR'⟩, hX'⟩ := hv6
              have y0' : w6.cell? ⟨b, 0, none⟩ = some (.pointer (some ⟨br, 0, none⟩)) := hX'.xr.cell (by decide)
              have z4' : w6.cell? ⟨br, 4, none⟩ = some (.int .i64 (c : Int)) := hR'.row.cell (by decide)
              have f4' : w6.frozen? ⟨br, 4, none⟩ = false := hR'.row.frozen 4
              clear hR' hX' Y0 Y1 Z0 Z4 hclq hvq
              have hws' : f0 + (walkSum g T c - walkSum g T a) + deg g kk = f0 + (walkSum g T (c + 1) - walkSum g T a) := by omega
              rw [hws'] at hv7
              go_wp2_with fail
              have hmul : (c + 1 - a) * 262144 = (c - a) * 262144 + 262144 := by rw [show c + 1 - a = (c - a) + 1 by omega, Nat.succ_mul]
              go_roundg (a + g.n - (c + 1))
              case measure => omega
              case rel => exact ⟨c + 1, by omega, by omega, rfl, hb7.setCell (Nat.le_refl _) _, hv7, hlv, by omega, by omega⟩

            | true =>
              replace hhold := fun q => hhold q hix2
              rw [hhit] at hhold
              have hcl2 : (c : Int) < (T c).length := by omega
              clear hcell hR
              go_wp2_with fail
              go_quiet ((go_at_call 29; exact Calls.quiet_of_same (hhold _)))
              go_wp2_with fail
              refine bodyPost_ret (res30 _ _ (b + 1 + 1 + 1) _ rfl (cell_setbox hX _ _)) rfl ⟨c, hac, hlive, .inr (by simp [hit, hon2, hhit]), rfl, (Kept.of_below hb |>.drewN _ |>.below).setCell (by show br ≤ b + 1 + 1 + 1; omega) _, ra_setbox hv _ _⟩

        · have hcl2 : ¬ (c : Int) < (T c).length := by omega
          clear hhold
          clear hcell hR
          go_wp2_with fail
          go_quiet (fail)
          go_wp2_with fail
          refine bodyPost_ret (res30 _ _ (b + 1 + 1 + 1) _ rfl (cell_setbox hX _ _)) rfl ⟨c, hac, hlive, .inl (by omega), rfl, (Kept.of_below hb |>.drewN _ |>.below).setCell (by show br ≤ b + 1 + 1 + 1; omega) _, ra_setbox hv _ _⟩

end Go.Proofs.Qxb6619590a
