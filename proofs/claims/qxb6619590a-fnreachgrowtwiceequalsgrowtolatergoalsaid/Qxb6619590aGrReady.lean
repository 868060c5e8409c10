/-
  Statements 4 and 5: what stands once the graph is made.
-/
import Derived.Test.Qxb6619590aGrRuns
namespace Go.Proofs.Qxb6619590a
open Go.RowKit Go.Deep Go.Maps

theorem Gph.mono {w : World} {G G' : Nat → Prop} {g : GA} (h : Gph w G g) (hG : ∀ b, G b → G' b) : Gph w G' g :=
  ⟨hG _ h.lt, h.c0, h.cF, h.cS, h.nodes.mono hG, h.from'.mono hG, h.steps.mono hG, fun x hx hy w'' hk => h.num x hx hy w'' (hk.mono hG)⟩

/-- The law's boxes, the graph, the law's own three slices. -/
structure Ready (w W : World) (g : GA) (f0 f1 s0 s1 : Value) (aN aF aS : Option Addr) : Prop where
  env : Env w W f0 f1 s0 s1
  ok : g.Ok
  gph : Gph W (· < W.heap.size) g
  nodes : Ints W (· < W.heap.size) aN g.n g.vN
  from' : Ints W (· < W.heap.size) aF (g.n + 1) (fun k => (g.FR k : Int))
  steps : Ints W (· < W.heap.size) aS g.ls (fun k => (g.ST k : Int))

theorem Ready.next {w W W' : World} {g : GA} {f0 f1 s0 s1 : Value} {aN aF aS : Option Addr} (h : Ready w W g f0 f1 s0 s1 aN aF aS) (hb : Below W.heap.size W W') : Ready w W' g f0 f1 s0 s1 aN aF aS := by
  have hm : ∀ b, b < W.heap.size → b < W'.heap.size := fun b h => Nat.lt_of_lt_of_le h hb.size
  have hk := Kept.of_below hb
  exact ⟨h.env.next hb, h.ok, (h.gph.kept hk).mono hm, (h.nodes.kept hk).mono hm, (h.from'.kept hk).mono hm, (h.steps.kept hk).mono hm⟩

theorem Ready.drewN {w W : World} {g : GA} {f0 f1 s0 s1 : Value} {aN aF aS : Option Addr} (h : Ready w W g f0 f1 s0 s1 aN aF aS) (q : Nat) : Ready w (W.drewN q) g f0 f1 s0 s1 aN aF aS :=
  h.next ((Kept.of_below (Below.refl W.heap.size W)).drewN q).below

theorem Env.four {w W : World} {f0 f1 s0 s1 : Value} (h : Env w W f0 f1 s0 s1) : W.cell? ⟨w.heap.size, 0, none⟩ = some f0 ∧ W.cell? ⟨w.heap.size, 1, none⟩ = some f1 ∧ W.cell? ⟨w.heap.size + 1, 0, none⟩ = some s0 ∧ W.cell? ⟨w.heap.size + 1, 1, none⟩ = some s1 :=
  ⟨h.bf.cell (by decide), h.bf.cell (by decide), h.bs.cell (by decide), h.bs.cell (by decide)⟩

theorem ready_of {w W : World} {f0 f1 s0 s1 : Value} {bg d n lD lF lS ml : Nat} {aD gN gD gF gS aN' x y : Option Addr} {vN vD FR ST : Nat → Int} {mn : Int} {mo : Option Nat} {lv : Int → Int} {lb : Int → Bool}
    (hE : Env w W f0 f1 s0 s1) (hM : MapR w (.map mo) ml lv lb) (hbg : bg < W.heap.size) (c0 : W.cell? ⟨bg, 0, none⟩ = some (.slice gN n n)) (c1 : W.cell? ⟨bg, 1, none⟩ = some (.int .i32 mn)) (c2 : W.cell? ⟨bg, 2, none⟩ = some (.slice gD lD lD)) (c3 : W.cell? ⟨bg, 3, none⟩ = some (.map mo))
    (cF : W.cell? ⟨bg, 4 + d, none⟩ = some (.slice gF lF lF)) (cS : W.cell? ⟨bg, 6 + d, none⟩ = some (.slice gS lS lS)) (hd : d ≤ 1)
    (hN : Sl W gN n n vN) (hD : Sl W gD lD lD vD) (hF : Sl W gF lF lF FR) (hS : Sl W gS lS lS ST) (hi : gD = none ↔ aD = none) (hPH : PH aD n vN mn lD vD ml lv lb) (hT : Tail n lF FR lS ST)
    (z1 : n ≤ 262144) (z6 : lS ≤ 262144) (hm0 : -2147483648 ≤ mn) (hm1 : mn ≤ 2147483647)
    (hN' : Sl W aN' n n vN) (hF' : Sl W x lF lF FR) (hS' : Sl W y lS lS ST) :
    ∃ g : GA, g.bg = bg ∧ g.d = d ∧ g.n = n ∧ g.ls = lS ∧ Ready w W g f0 f1 s0 s1 aN' x y := by
  have hlF : lF = n + 1 := hT.1
  subst hlF
  have hok := ok_of (bg := bg) (aN := gN) (aF := gF) (aS := gS) hd z1 z6 hPH.inj hT hN.rng
  have hF2 : Ints W (· < W.heap.size) x (n + 1) (fun k => (((gaOf bg d n lS gN gF gS vN FR ST).FR k : Nat) : Int)) := hF'.ints.congr (fun k hk => by
    have := fr_nonneg hT k (by omega)
    show FR k = (((FR k).toNat : Nat) : Int)
    omega)
  have hS2 : Ints W (· < W.heap.size) y lS (fun k => (((gaOf bg d n lS gN gF gS vN FR ST).ST k : Nat) : Int)) := hS'.ints.congr (fun k hk => by
    have := (hT.2.2.2.2 k hk).1
    show ST k = (((ST k).toNat : Nat) : Int)
    omega)
  refine ⟨gaOf bg d n lS gN gF gS vN FR ST, rfl, rfl, rfl, rfl, hE, hok, ?_, hN'.ints, hF2, hS2⟩
  rcases hPH with ⟨rfl, hh⟩ | ⟨hne, hh⟩
  · obtain rfl := hi.2 rfl
    obtain ⟨rfl, _⟩ := hD.nil rfl
    exact gph_map hE.below hM hbg c0 c2 c3 cF cS hN hF hS hT hh hok
  · cases gD with
    | none => exact absurd (hi.1 rfl) hne
    | some a => exact gph_dense hbg c0 c1 c2 cF cS hN hF hS hD hT hh hm0 hm1 hok

/-- A new reach, and one growth of it. -/
theorem Ready.grow {w W W' : World} {g : GA} {f0 f1 s0 s1 : Value} {aN aF aS : Option Addr} (h : Ready w W g f0 f1 s0 s1 aN aF aS) (hb : Below W.heap.size W W') (hR : RA W' g W.heap.size [] (fun _ => false) 0) {bg : Nat} (hbg : g.bg = bg) {di node goal : Int} (hd : ((g.d : Nat) : Int) = di)
    (hn0 : -2147483648 ≤ node) (hn1 : node ≤ 2147483647) (hg0 : -2147483648 ≤ goal) (hg1 : goal ≤ 2147483647) :
    Calls Try.prog 23 #[.pointer (some ⟨W.heap.size, 0, none⟩), .pointer (some ⟨bg, 0, none⟩), .int .i32 node, .int .i64 di, .int .i32 goal] W' fun e w'' =>
      ∃ f : Nat, e = .returned (.int .i64 (f : Int)) ∧ ∃ rn S wk, Below W.heap.size W w'' ∧ Ready w w'' g f0 f1 s0 s1 aN aF aS ∧ RA w'' g W.heap.size rn S wk ∧ Grown g node goal rn S wk f := by
  subst hbg hd
  refine (fresh_any W' g W.heap.size node goal hn0 hn1 hg0 hg1 h.ok (h.gph.kept (Kept.of_below hb)) hR).mono ?_
  rintro e w'' ⟨rn, S, wk, f, rfl, hb2, hr, hG⟩
  have hb3 : Below W.heap.size W w'' := hb.trans hb2
  exact ⟨f, rfl, rn, S, wk, hb3, h.next hb3, hr, hG⟩

theorem Ready.check {w W : World} {g : GA} {f0 f1 s0 s1 : Value} {aN aF aS : Option Addr} (h : Ready w W g f0 f1 s0 s1 aN aF aS) {n lF lS cN cF cS br wk f : Nat} {rn : List Nat} {S : Nat → Bool} {node goal : Int} (hn : g.n = n) (hF : lF = n + 1) (hls : g.ls = lS) (hR : RA W g br rn S wk) (hG : Grown g node goal rn S wk f) :
    Calls Try.prog 24 #[.slice aN n cN, .slice aF lF cF, .slice aS lS cS, .int .i32 node, .int .i32 goal, .pointer (some ⟨br, 0, none⟩), .int .i64 (f : Int)] W fun e w' => e = .returned (.bool true) ∧ Below W.heap.size W w' ∧ Ready w w' g f0 f1 s0 s1 aN aF aS := by
  subst hn hF hls
  exact (check_any W g h.ok aN aF aS cN cF cS h.nodes h.from' h.steps node goal br wk f rn S hR hG).mono (fun e w' ⟨he, hb⟩ => ⟨he, hb, h.next hb⟩)

end Go.Proofs.Qxb6619590a
