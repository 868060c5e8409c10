/-
  Statements 4 and 5: the graph that ZZMakeGraph has made.
-/
import Derived.Test.Qxb6619590aGrArgs
namespace Go.Proofs.Qxb6619590a
open Go.RowKit Go.Deep Go.Maps

theorem gph_parts {W : World} {bg d n ls lF : Nat} {aN aF aS : Option Addr} {vN FR ST : Nat → Int} (hbg : bg < W.heap.size) (c0 : W.cell? ⟨bg, 0, none⟩ = some (.slice aN n n)) (cF : W.cell? ⟨bg, 4 + d, none⟩ = some (.slice aF (n + 1) (n + 1))) (cS : W.cell? ⟨bg, 6 + d, none⟩ = some (.slice aS ls ls))
    (hN : Sl W aN n n vN) (hF : Sl W aF (n + 1) (n + 1) FR) (hS : Sl W aS ls ls ST) (ht : Tail n lF FR ls ST)
    (hnum : ∀ x : Int, -2147483648 ≤ x → x ≤ 2147483647 → ∀ w', Kept (· < W.heap.size) W w' → Calls Try.prog 36 #[.pointer (some ⟨bg, 0, none⟩), .int .i32 x] w' fun e w'' => e = .returned (.tuple #[.int .i32 ((gaOf bg d n ls aN aF aS vN FR ST).ix x : Int), .bool ((gaOf bg d n ls aN aF aS vN FR ST).on x)]) ∧ w'' = w') :
    Gph W (· < W.heap.size) (gaOf bg d n ls aN aF aS vN FR ST) :=
  ⟨hbg, c0, cF, cS, hN.ints, hF.ints.congr (fun k hk => by
      have := fr_nonneg ht k (by omega)
      show FR k = ((FR k).toNat : Int)
      omega), hS.ints.congr (fun e he => by
      have := ht.2.2.2.2 e he
      show ST e = ((ST e).toNat : Int)
      omega), hnum⟩

theorem gph_dense {W : World} {bg d n ls lF lD : Nat} {aN aF aS : Option Addr} {aD : Addr} {vN FR ST vD : Nat → Int} {mn : Int} (hbg : bg < W.heap.size) (c0 : W.cell? ⟨bg, 0, none⟩ = some (.slice aN n n)) (c1 : W.cell? ⟨bg, 1, none⟩ = some (.int .i32 mn)) (c2 : W.cell? ⟨bg, 2, none⟩ = some (.slice (some aD) lD lD))
    (cF : W.cell? ⟨bg, 4 + d, none⟩ = some (.slice aF (n + 1) (n + 1))) (cS : W.cell? ⟨bg, 6 + d, none⟩ = some (.slice aS ls ls))
    (hN : Sl W aN n n vN) (hF : Sl W aF (n + 1) (n + 1) FR) (hS : Sl W aS ls ls ST) (hD : Sl W (some aD) lD lD vD) (ht : Tail n lF FR ls ST) (hh : HeadD n vN mn lD vD) (hm0 : -2147483648 ≤ mn) (hm1 : mn ≤ 2147483647) (hok : (gaOf bg d n ls aN aF aS vN FR ST).Ok) :
    Gph W (· < W.heap.size) (gaOf bg d n ls aN aF aS vN FR ST) :=
  gph_parts hbg c0 cF cS hN hF hS ht (fun x h0 h1 w' hk => by
    have k1 : w'.cell? ⟨bg, 1, none⟩ = some (.int .i32 mn) := by rw [hk.cell (p := ⟨bg, 1, none⟩) hbg]; exact c1
    have k2 : w'.cell? ⟨bg, 2, none⟩ = some (.slice (some aD) lD lD) := by rw [hk.cell (p := ⟨bg, 2, none⟩) hbg]; exact c2
    have hdn := dense_num hok hh x
    refine (number_dense w' bg aD lD mn vD _ k1 k2 (hD.ints.kept hk) (fun i hi => (hD.rng i hi).2) x h0 h1 hm0 hm1).mono (fun e w'' he => ?_)
    rw [hdn.1, hdn.2] at he
    exact he)

theorem gph_map {w W : World} {bg d n ls lF ml : Nat} {aN aF aS : Option Addr} {vN FR ST : Nat → Int} {m : Value} {lv : Int → Int} {lb : Int → Bool} (hb : Below w.heap.size w W) (hM : MapR w m ml lv lb) (hbg : bg < W.heap.size) (c0 : W.cell? ⟨bg, 0, none⟩ = some (.slice aN n n)) (c2 : W.cell? ⟨bg, 2, none⟩ = some (.slice none 0 0)) (c3 : W.cell? ⟨bg, 3, none⟩ = some m)
    (cF : W.cell? ⟨bg, 4 + d, none⟩ = some (.slice aF (n + 1) (n + 1))) (cS : W.cell? ⟨bg, 6 + d, none⟩ = some (.slice aS ls ls))
    (hN : Sl W aN n n vN) (hF : Sl W aF (n + 1) (n + 1) FR) (hS : Sl W aS ls ls ST) (ht : Tail n lF FR ls ST) (hh : HeadM n vN ml lv lb) (hok : (gaOf bg d n ls aN aF aS vN FR ST).Ok) :
    Gph W (· < W.heap.size) (gaOf bg d n ls aN aF aS vN FR ST) :=
  gph_parts hbg c0 cF cS hN hF hS ht (fun x h0 h1 w' hk => by
    have k2 : w'.cell? ⟨bg, 2, none⟩ = some (.slice none 0 0) := by rw [hk.cell (p := ⟨bg, 2, none⟩) hbg]; exact c2
    have k3 : w'.cell? ⟨bg, 3, none⟩ = some m := by rw [hk.cell (p := ⟨bg, 3, none⟩) hbg]; exact c3
    have hb' : Below w.heap.size w w' := hb.trans (hk.below.mono hb.size)
    have hl := (hM.look w' hb' x h0 h1).1
    have hlb : lb x = (gaOf bg d n ls aN aF aS vN FR ST).on x ∧ lv x = ((gaOf bg d n ls aN aF aS vN FR ST).ix x : Int) := by
      cases hx : (gaOf bg d n ls aN aF aS vN FR ST).on x with
      | true =>
        obtain ⟨hi, hv⟩ := GA.ix_on hx
        have := hh.2 _ hi
        have e : vN ((gaOf bg d n ls aN aF aS vN FR ST).ix x) = x := hv
        rw [e] at this
        exact this
      | false =>
        have hbx : lb x = false := by
          cases h2 : lb x with
          | false => rfl
          | true =>
            obtain ⟨i, hi, e⟩ := hM.keys n vN hh x h2
            have := (GA.ix_at hok (i := i) hi).1
            have e' : (gaOf bg d n ls aN aF aS vN FR ST).vN i = x := e
            rw [e', hx] at this
            cases this
        exact ⟨hbx, by rw [hM.zero x h0 h1 hbx, GA.ix_off hx]; rfl⟩
    rw [hlb.1, hlb.2] at hl
    exact number_map w' bg m x _ _ k2 k3 hl)

end Go.Proofs.Qxb6619590a
