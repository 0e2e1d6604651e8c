import Derived.Test.YbulkeyzgB14
namespace Go.Proofs.Ybulkeyzg
open Go.RowKit

set_option maxRecDepth 100000 in
set_option maxHeartbeats 4000000 in
theorem p54 (I : Inp) (w0 : World) (hlp : I.lp ≤ 4096) (hlt : I.lt ≤ 4096) (psB mbB tsB : Nat) (B : MB) (i j ta bb kb : Nat) (hil : i < I.lt) (hjl : j < (I.T i).nb) (hnb : (I.T i).nb ≤ 4096) (Q : Exit → Act → World → Prop) (hQ : ∀ a w, F5 I w0 psB mbB tsB B i j ta a w → Q .normal a w) (a : Act) (w : World)
    (hL : Lv5 I psB mbB tsB B i j ta bb kb a) (lab : Lab) (A : Adr) (ks vs : Nat → Value) (l : List Value) (hS : S5 I w0 lab w A psB mbB tsB B ks vs i ta bb kb (fun t => (I.σi i j t).kv) (fun t => (I.σi i j t).kv) (I.σi i j) (I.σi i (j + 1)) (I.bkey i j) ((I.T i).b j) l) :
    Code.wp Yba.prog (nav [1, 1, 1, 1, 1, 1, 1, 1, 1, 1, 1, 1, 1, 1, 1, 1, 1, 0, 1, 0, 0, 1, 0, 0, 1, 0, 1, 0, 1, 1, 1, 1, 1, 0, 0, 1, 0, 0, 1, 1, 1] (Yba.f3.body.getD .skip)) Q a w := by
  obtain ⟨x, rfl, hx⟩ := act_fr a hL.size hL.defers
  have e0 := hx _ _ hL.s0
  have e1 := hx _ _ hL.s1
  have e2 := hx _ _ hL.s2
  have e10 := hx _ _ hL.s10
  have e11 := hx _ _ hL.s11
  have e12 := hx _ _ hL.s12
  have e17 := hx _ _ hL.s17
  have e18 := hx _ _ hL.s18
  have e19 := hx _ _ hL.s19
  have e20 := hx _ _ hL.s20
  have e21 := hx _ _ hL.s21
  have e22 := hx _ _ hL.s22
  have e23 := hx _ _ hL.s23
  have e24 := hx _ _ hL.s24
  have e25 := hx _ _ hL.s25
  have e26 := hx _ _ hL.s26
  have e27 := hx _ _ hL.s27
  clear hx hL
  unfold ptr at e24 e26 e27
  have hnp : I.D.np ≤ 4096 := by show (if I.lp = 0 then 1 else I.lp) ≤ 4096; split <;> omega
  have hnp0 := I.D_fine.np
  have hnt : I.D.nt ≤ 4096 := by show (if I.lt = 0 then 1 else I.lt) ≤ 4096; split <;> omega
  have hint : i < I.D.nt := by show i < (if I.lt = 0 then 1 else I.lt); split <;> omega
  obtain ⟨np, hnpe⟩ : ∃ np, np = I.D.np := ⟨_, rfl⟩
  obtain ⟨nt, hnte⟩ : ∃ nt, nt = I.D.nt := ⟨_, rfl⟩
  have HNP : Hid (np = I.D.np ∧ nt = I.D.nt) := ⟨hnpe, hnte⟩
  rw [← hnpe] at e10 e11 e12 hnp hnp0
  rw [← hnte] at e17 e18 e19 e20 e21 e22 hnt hint
  clear hnpe hnte
  have hI : (i : Int) < I.lt := by omega
  have hI2 : (i : Int) < nt := by omega
  have hti : i < I.D.nt := by rw [← HNP.out.2]; exact hint
  obtain ⟨ka, kc, hks, hKA⟩ := (hS.tg.mod.keys i hti).keysAt
  rw [I.σi_kv] at hks hKA
  have c0 := hS.tg.mod.r2.cell (i := i) hti
  rw [hks] at c0
  have hvl := hS.tg.mod.r2.lt
  have k0 := hS.tk.cell 0 _ rfl
  have k1 := hS.tk.cell 1 _ rfl
  have k2 := hS.tk.cell 2 _ rfl
  have hkl := hS.tk.lt
  have hlen := I.kvN_len i j
  have hC := find_any w.drew ka kc (I.kvN i j) (I.bkey i j) hKA (by omega)
  have HS : Hid (S5 I w0 lab w A psB mbB tsB B ks vs i ta bb kb (fun t => (I.σi i j t).kv) (fun t => (I.σi i j t).kv) (I.σi i j) (I.σi i (j + 1)) (I.bkey i j) ((I.T i).b j) l) := hS
  obtain ⟨n, hn⟩ : ∃ n, n = (I.kvN i j).length := ⟨_, rfl⟩
  obtain ⟨ix, hix⟩ : ∃ ix, ix = ixV (idx (I.bkey i j) (I.kvN i j)) := ⟨_, rfl⟩
  obtain ⟨k, hke⟩ : ∃ k, k = I.bkey i j := ⟨_, rfl⟩
  have HIX : Hid (ix = ixV (idx (I.bkey i j) (I.kvN i j)) ∧ k = I.bkey i j) := ⟨hix, hke⟩
  rw [← hn] at c0 hC
  rw [← hix] at hC
  rw [← hke] at k0 k1 k2 hC
  clear hS hks hKA hn hlen hix hke
  simp only [fr, Nat.reduceAdd, e0, e1, e2, e10, e11, e12, e17, e18, e19, e20, e21, e22, e23, e24, e25, e26, e27]
  clear e0 e1 e2 e10 e11 e12 e17 e18 e19 e20 e21 e22 e23 e24 e25 e26 e27
  conv => arg 2; whnf
  refine wp_seq ?_
  go_region_held3 (fun w' => w'.cell? ⟨B.kb, i, none⟩ = some (.slice ka n kc) ∧ w'.cell? ⟨kb, 0, none⟩ = some (.int .i64 k.1) ∧ w'.cell? ⟨kb, 1, none⟩ = some (.int .u8 k.2.1) ∧ w'.cell? ⟨kb, 2, none⟩ = some (.int .u8 k.2.2)) (first | exact ⟨c0, k0, k1, k2⟩ | exact ⟨y0, y1, y2, y3⟩)
    (first
      | (go_at_call 6; refine hC.mono ?_; rintro e V ⟨rfl, t1⟩; have y0 := (World.cell?_of_block (a := ⟨B.kb, i, none⟩) (t1.block B.kb hvl id)).trans c0; have y1 := (World.cell?_of_block (a := ⟨kb, 0, none⟩) (t1.block kb hkl id)).trans k0; have y2 := (World.cell?_of_block (a := ⟨kb, 1, none⟩) (t1.block kb hkl id)).trans k1; have y3 := (World.cell?_of_block (a := ⟨kb, 2, none⟩) (t1.block kb hkl id)).trans k2))
  have hT : Touch (fun _ => False) w V := ((Touch.refl _ _).drew).trans t1
  have hf : Free lab lab w V := Free.touch hT fun _ h => h.elim
  have hS' : S5 I w0 lab V A psB mbB tsB B ks vs i ta bb kb (fun t => (I.σi i j t).kv) (fun t => (I.σi i j t).kv) (I.σi i j) (I.σi i (j + 1)) (I.bkey i j) ((I.T i).b j) l :=
    ⟨HS.out.tg.touch0 hT, HS.out.ta, HS.out.tb.free hf hT.size, HS.out.l3, HS.out.tk.free hf hT.size⟩
  have HS' : Hid (S5 I w0 lab V A psB mbB tsB B ks vs i ta bb kb (fun t => (I.σi i j t).kv) (fun t => (I.σi i j t).kv) (I.σi i j) (I.σi i (j + 1)) (I.bkey i j) ((I.T i).b j) l) := hS'
  clear hS' hT hf t1 y0 y1 y2 y3 c0 k0 k1 k2 hC HS
  cases hi : idx (I.bkey i j) (I.kvN i j) with
  | none =>
    have hixe : ix = -1 := by rw [HIX.out.1, hi]; rfl
    have HI : Hid (idx (I.bkey i j) (I.kvN i j) = none) := hi
    clear hi HIX
    subst hixe
    refine wp_seq ?_
    go_upto_if 282 with fail
    refine wp_cond_true rfl ?_
    exact p56 I w0 hlp hlt psB mbB tsB B i j ta bb kb hil hjl hnb Q hQ _ _ ⟨⟨⟨⟨rfl, rfl, rfl, rfl, rfl⟩, by rw [← HNP.out.1]; rfl, by rw [← HNP.out.1]; rfl, by rw [← HNP.out.1]; rfl⟩, by rw [← HNP.out.2]; rfl, by rw [← HNP.out.2]; rfl, by rw [← HNP.out.2]; rfl, by rw [← HNP.out.2]; rfl, by rw [← HNP.out.2]; rfl, by rw [← HNP.out.2]; rfl⟩, rfl, rfl, rfl, rfl, rfl⟩ lab A ks vs l HS'.out HI.out
  | some q =>
    have hixe : ix = (q : Int) := by rw [HIX.out.1, hi]; rfl
    exact p58 I w0 hlp hlt psB mbB tsB B i j ta bb kb hil hjl hnb q Q hQ _ _ ⟨⟨⟨⟨rfl, rfl, rfl, rfl, rfl⟩, by rw [← HNP.out.1]; rfl, by rw [← HNP.out.1]; rfl, by rw [← HNP.out.1]; rfl⟩, by rw [← HNP.out.2]; rfl, by rw [← HNP.out.2]; rfl, by rw [← HNP.out.2]; rfl, by rw [← HNP.out.2]; rfl, by rw [← HNP.out.2]; rfl, by rw [← HNP.out.2]; rfl⟩, rfl, rfl, rfl, rfl, rfl⟩ (by rw [← hixe]; rfl) lab A ks vs l HS'.out hi
end Go.Proofs.Ybulkeyzg
