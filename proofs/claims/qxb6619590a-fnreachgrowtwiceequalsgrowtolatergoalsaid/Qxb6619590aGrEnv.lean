/-
  Statements 4 and 5: the law's two boxes; the premise.
-/
import Derived.Test.Qxb6619590aGrGph
namespace Go.Proofs.Qxb6619590a
open Go.RowKit Go.Deep Go.Maps

def two (x y : Value) : Nat → Value := fun j => if j = 0 then x else y

/-- The two boxes of the law, at block H; w: the world at the call's start. -/
structure Env (w W : World) (f0 f1 s0 s1 : Value) : Prop where
  below : Below w.heap.size w W
  bf : W.rowIs w.heap.size 30 2 (two f0 f1)
  bs : W.rowIs (w.heap.size + 1) 30 2 (two s0 s1)

theorem Env.next {w W W' : World} {f0 f1 s0 s1 : Value} (h : Env w W f0 f1 s0 s1) (hb : Below W.heap.size W W') : Env w W' f0 f1 s0 s1 :=
  ⟨h.below.trans (hb.mono h.below.size), h.bf.of_block (hb.block _ h.bf.lt), h.bs.of_block (hb.block _ h.bs.lt)⟩

theorem env_start (w : World) (f0 f1 s0 s1 : Value) : Env w ((w.alloc (.cells #[f0, f1] 30)).alloc (.cells #[s0, s1] 30)) f0 f1 s0 s1 := by
  have h1 := World.rowIs_alloc w #[f0, f1] 30 (two f0 f1) (fun i hi => by
    match i, hi with
    | 0, _ => rfl
    | 1, _ => rfl)
  have h2 := World.rowIs_alloc (w.alloc (.cells #[f0, f1] 30)) #[s0, s1] 30 (two s0 s1) (fun i hi => by
    match i, hi with
    | 0, _ => rfl
    | 1, _ => rfl)
  rw [nblk_alloc] at h2
  exact ⟨((Below.refl _ w).alloc (Nat.le_refl _) _).alloc (by rw [nblk_alloc]; omega) _, h1.alloc _, h2⟩

/-- What the premise says of the numbers. -/
def PH (aD : Option Addr) (n : Nat) (vN : Nat → Int) (mn : Int) (lD : Nat) (vD : Nat → Int) (ml : Nat) (lv : Int → Int) (lb : Int → Bool) : Prop := (aD = none ∧ HeadM n vN ml lv lb) ∨ (aD ≠ none ∧ HeadD n vN mn lD vD)

theorem PremIs.imp {w : World} {P Q : Prop} {e : Ending} {w' : World} (h : PremIs w P e w') (hi : P → Q) : PremIs w Q e w' := by
  obtain ⟨⟨b, he, hp⟩, hq⟩ := h
  exact ⟨⟨b, he, fun hb => hi (hp hb)⟩, hq⟩

theorem prem_any {w W : World} {aN aD aF aS : Option Addr} {n cN lD cD lF cF lS cS ml : Nat} {vN vD FR ST : Nat → Int} {mn : Int} {m : Value} {lv : Int → Int} {lb : Int → Bool} (hb : Below w.heap.size w W) (hN : Sl W aN n cN vN) (hD : Sl W aD lD cD vD) (hF : Sl W aF lF cF FR) (hS : Sl W aS lS cS ST) (hM : MapR w m ml lv lb)
    (hn : n ≤ 262144) (hlD : lD ≤ 262144) (hlF : lF ≤ 262144) (hlS : lS ≤ 262144) (hm0 : -2147483648 ≤ mn) (hm1 : mn ≤ 2147483647) :
    Calls Try.prog 21 #[.slice aN n cN, .int .i32 mn, .slice aD lD cD, m, .slice aF lF cF, .slice aS lS cS] W (PremIs W (PH aD n vN mn lD vD ml lv lb ∧ Tail n lF FR lS ST)) := by
  cases aD with
  | none =>
    obtain ⟨rfl, rfl⟩ := hD.nil rfl
    exact (prem_map W _ n lF lS cN cF cS ml aN aF aS vN FR ST mn m lv lb hN.ints hF.ints hS.ints hn hlF hlS hN.rng hF.rng hS.rng (hM.len W hb) (hM.look W hb)).mono (fun _ _ h => h.imp (fun hp => ⟨.inl ⟨rfl, hp.1⟩, hp.2⟩))
  | some a =>
    exact (prem_dense W _ n lD lF lS cN cD cF cS aN aF aS a vN vD FR ST mn m hN.ints hD.ints hF.ints hS.ints hn hlD hlF hlS hN.rng hD.rng hF.rng hS.rng hm0 hm1).mono (fun _ _ h => h.imp (fun hp => ⟨.inr ⟨by simp, hp.1⟩, hp.2⟩))

theorem PH.inj {aD : Option Addr} {n : Nat} {vN : Nat → Int} {mn : Int} {lD : Nat} {vD : Nat → Int} {ml : Nat} {lv : Int → Int} {lb : Int → Bool} (h : PH aD n vN mn lD vD ml lv lb) : ∀ i j, i < n → j < n → vN i = vN j → i = j := by
  rcases h with ⟨_, h⟩ | ⟨_, h⟩
  · intro i j hi hj e
    have h1 := (h.2 i hi).2
    have h2 := (h.2 j hj).2
    rw [e, h2] at h1
    omega
  · exact (dense_law h).1

end Go.Proofs.Qxb6619590a
