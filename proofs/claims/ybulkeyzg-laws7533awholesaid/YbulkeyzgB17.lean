import Derived.Test.YbulkeyzgB16
namespace Go.Proofs.Ybulkeyzg
open Go.RowKit

def I5 (I : Inp) (w0 : World) (psB mbB tsB : Nat) (B : MB) (i ta : Nat) (a : Act) (w : World) : Prop := Lv2 I psB mbB tsB B a ∧ a.tmps[23]? = some (.int .i64 i) ∧ a.tmps[24]? = some (ptr ta) ∧ ∃ j : Nat, j ≤ (I.T i).nb ∧ a.tmps[25]? = some (.int .i64 j) ∧ TGS I w0 w psB mbB tsB B i (i + 1) ta (I.σi i j) (I.σi i j)
def M5 (I : Inp) (w0 : World) (psB mbB tsB : Nat) (B : MB) (i ta : Nat) (a : Act) (w : World) : Prop := Lv2 I psB mbB tsB B a ∧ a.tmps[23]? = some (.int .i64 i) ∧ a.tmps[24]? = some (ptr ta) ∧ TGS I w0 w psB mbB tsB B i (i + 1) ta (I.σi i (I.T i).nb) (I.σi i (I.T i).nb)

set_option maxRecDepth 100000 in
set_option maxHeartbeats 4000000 in
theorem loop5 (I : Inp) (w0 : World) (hA : I.At w0) (hF : I.Fine) (hlp : I.lp ≤ 4096) (hlt : I.lt ≤ 4096) (psB mbB tsB : Nat) (B : MB) (i ta : Nat) (hil : i < I.lt) (hnb : (I.T i).nb ≤ 4096) (Q : Exit → Act → World → Prop) (K : Act → World → Prop) (hK : ∀ a w, M5 I w0 psB mbB tsB B i ta a w → K a w) (a : Act) (w : World) (h : I5 I w0 psB mbB tsB B i ta a w) :
    Code.wp Yba.prog (nav [1, 1, 1, 1, 1, 1, 1, 1, 1, 1, 1, 1, 1, 1, 1, 1, 1, 0, 1, 0, 0, 1, 0, 0, 1, 0, 1, 0, 1, 1, 1, 1, 1] (Yba.f3.body.getD .skip)) (Exit.then K Q) a w := by
  refine wp_block_loop K (I5 I w0 psB mbB tsB B i ta) (fun a _ => (I.T i).nb - (intOf (a.tmps.getD 25 undef)).toNat) h ?_
  clear h a w
  intro a w h
  obtain ⟨hL, e23, e24, j, hj, e25, lab, A, ks, vs, hta, hG⟩ := h
  obtain ⟨x, rfl, hx⟩ := act_fr a hL.size hL.defers
  have e0 := hx _ _ hL.s0
  have e1 := hx _ _ hL.s1
  have e2 := hx _ _ hL.s2
  have e10 := hx _ _ hL.s10
  have e11 := hx _ _ hL.s11
  have e12 := hx _ _ hL.s12
  have e17 := hx _ _ hL.s17
  have e18 := hx _ _ hL.s18
  have e19 := hx _ _ hL.s19
  have e20 := hx _ _ hL.s20
  have e21 := hx _ _ hL.s21
  have e22 := hx _ _ hL.s22
  replace e23 := hx _ _ e23
  replace e24 := hx _ _ e24
  replace e25 := hx _ _ e25
  clear hx hL
  unfold ptr at e24
  have HG : Hid (TG I w0 lab w A psB mbB tsB B ks vs i (i + 1) (fun t => (I.σi i j t).s) (fun t => (I.σi i j t).f) (fun t => (I.σi i j t).kv) (fun t => (I.σi i j t).kv) (I.σi i j) ∧ A.ta i = ta) := ⟨hG, hta⟩
  have hAw := hA.below hG.labs.bel
  clear hG hta
  have hnp : I.D.np ≤ 4096 := by show (if I.lp = 0 then 1 else I.lp) ≤ 4096; split <;> omega
  have hnp0 := I.D_fine.np
  have hnt : I.D.nt ≤ 4096 := by show (if I.lt = 0 then 1 else I.lt) ≤ 4096; split <;> omega
  have hint : i < I.D.nt := by show i < (if I.lt = 0 then 1 else I.lt); split <;> omega
  obtain ⟨np, hnpe⟩ : ∃ np, np = I.D.np := ⟨_, rfl⟩
  obtain ⟨nt, hnte⟩ : ∃ nt, nt = I.D.nt := ⟨_, rfl⟩
  have HNP : Hid (np = I.D.np ∧ nt = I.D.nt) := ⟨hnpe, hnte⟩
  rw [← hnpe] at e10 e11 e12 hnp hnp0
  rw [← hnte] at e17 e18 e19 e20 e21 e22 hnt hint
  clear hnpe hnte
  obtain ⟨b, off, hp, hb, -, -, c2⟩ := hAw.trxs i hil
  rw [hp] at e1
  have HP : Hid (I.p1 = some ⟨b, off, none⟩) := hp
  clear hp
  have hI : (i : Int) < I.lt := by omega
  have hI2 : (i : Int) < nt := by omega
  by_cases hjl : j < (I.T i).nb
  · have hJ : (j : Int) < (I.T i).nb := by omega
    have HJL : Hid (j < (I.T i).nb ∧ (I.T i).nb ≤ 4096) := ⟨hjl, hnb⟩
    obtain ⟨b', off', hp', hb', d0, d1, d2, d3⟩ := hAw.bits i hil j hjl
    obtain ⟨f1, f2, f3⟩ := hF.pg i hil j hjl
    rw [hp'] at c2
    obtain ⟨pg, hpg⟩ : ∃ pg, pg = (I.T i).pg j := ⟨_, rfl⟩
    obtain ⟨m, hm⟩ : ∃ m, m = (I.T i).m j := ⟨_, rfl⟩
    obtain ⟨k, hk⟩ : ∃ k, k = (I.T i).k j := ⟨_, rfl⟩
    obtain ⟨z, hz⟩ : ∃ z, z = (I.T i).b j := ⟨_, rfl⟩
    obtain ⟨nb, hnbe⟩ : ∃ nb, nb = (I.T i).nb := ⟨_, rfl⟩
    have HE : Hid (pg = (I.T i).pg j ∧ m = (I.T i).m j ∧ k = (I.T i).k j ∧ z = (I.T i).b j ∧ nb = (I.T i).nb) := ⟨hpg, hm, hk, hz, hnbe⟩
    rw [← hpg] at d0 f1
    rw [← hm] at d1 f2
    rw [← hk] at d2 f3
    rw [← hz] at d3
    rw [← hnbe] at c2 hj hnb hJ hjl
    clear hpg hm hk hz hp' hAw hnbe
    simp only [fr, Nat.reduceAdd, e0, e1, e2, e10, e11, e12, e17, e18, e19, e20, e21, e22, e23, e24, e25]
    clear e0 e1 e2 e10 e11 e12 e17 e18 e19 e20 e21 e22 e23 e24 e25
    go_upto_region 52 with fail
    clear c2 d0 d1 d2 d3 hb hb'
    have hnp' : ¬ np = 0 := by omega
    have hT1 : Tmp lab (w.alloc (.cells #[.int .u8 pg, .int .u8 m, .int .u8 k, .int .i64 z] 55)) w.heap.size [.int .u8 pg, .int .u8 m, .int .u8 k, .int .i64 z] := Tmp.new HG.out.1.labs _ _
    have HG1 : Hid (TG I w0 lab (w.alloc (.cells #[.int .u8 pg, .int .u8 m, .int .u8 k, .int .i64 z] 55)) A psB mbB tsB B ks vs i (i + 1) (fun t => (I.σi i j t).s) (fun t => (I.σi i j t).f) (fun t => (I.σi i j t).kv) (fun t => (I.σi i j t).kv) (I.σi i j) ∧ A.ta i = ta) := ⟨HG.out.1.touch0 ((Touch.refl _ _).alloc _), HG.out.2⟩
    clear HG
    generalize w.alloc (.cells #[.int .u8 pg, .int .u8 m, .int .u8 k, .int .i64 z] 55) = W1 at *
    have k0 := hT1.cell 0 _ rfl
    have k1 := hT1.cell 1 _ rfl
    have k2 := hT1.cell 2 _ rfl
    have hbl := hT1.lt
    generalize w.heap.size = bb at *
    have HT1 : Hid (Tmp lab W1 bb [.int .u8 pg, .int .u8 m, .int .u8 k, .int .i64 z]) := hT1
    clear hT1
    go_region_held3 (fun w' => w'.cell? ⟨bb, 0, none⟩ = some (.int .u8 pg) ∧ w'.cell? ⟨bb, 1, none⟩ = some (.int .u8 m) ∧ w'.cell? ⟨bb, 2, none⟩ = some (.int .u8 k)) (first | exact ⟨k0, k1, k2⟩ | (simp [go_sem, k0, k1, k2, hbl])) (fail)
    refine ‹∀ (a : Act) (w : World), Code.wp _ _ _ a w → _› _ _ ?_
    have r1 : (IntKind.i64.wrap (pg : Int)).tmod (np : Int) = ((pg % np : Nat) : Int) := by
      rw [show IntKind.i64.wrap (pg : Int) = (pg : Int) from by rw [IntKind.wrap_i64]; omega, Int.tmod_eq_emod_of_nonneg (by omega)]; rfl
    have r2 : (m : Int).tmod 3 = ((m % 3 : Nat) : Int) := by rw [Int.tmod_eq_emod_of_nonneg (by omega)]; rfl
    have r3 : (k : Int).tmod 4 = ((k % 4 : Nat) : Int) := by rw [Int.tmod_eq_emod_of_nonneg (by omega)]; rfl
    rw [r1, r2, r3]
    have hT2 : Tmp lab (W1.alloc (.cells #[.int .i64 (pg % np : Nat), .int .u8 (m % 3 : Nat), .int .u8 (k % 4 : Nat)] 57)) W1.heap.size (keyC (pg % np, m % 3, k % 4)) := Tmp.new HG1.out.1.labs _ _
    have hTo : Touch (fun _ => False) W1 (W1.alloc (.cells #[.int .i64 (pg % np : Nat), .int .u8 (m % 3 : Nat), .int .u8 (k % 4 : Nat)] 57)).drew := ((Touch.refl _ _).alloc _).drew
    have hFr : Free lab lab W1 (W1.alloc (.cells #[.int .i64 (pg % np : Nat), .int .u8 (m % 3 : Nat), .int .u8 (k % 4 : Nat)] 57)).drew := Free.touch hTo fun _ h => h.elim
    have hS5 : S5 I w0 lab (W1.alloc (.cells #[.int .i64 (pg % np : Nat), .int .u8 (m % 3 : Nat), .int .u8 (k % 4 : Nat)] 57)).drew A psB mbB tsB B ks vs i ta bb W1.heap.size (fun t => (I.σi i j t).kv) (fun t => (I.σi i j t).kv) (I.σi i j) (I.σi i j) (I.bkey i j) ((I.T i).b j) [.int .u8 pg, .int .u8 m, .int .u8 k] := by
      refine ⟨HG1.out.1.touch0 hTo, HG1.out.2, ?_, rfl, ?_⟩
      · rw [← HE.out.2.2.2.1]; exact HT1.out.free hFr hTo.size
      · have : I.bkey i j = (pg % np, m % 3, k % 4) := by
          unfold Inp.bkey
          rw [← HE.out.1, ← HE.out.2.1, ← HE.out.2.2.1, ← HNP.out.1]
        rw [this]
        exact ⟨hT2.tag, hT2.lt, hT2.cell⟩
    refine p53 I w0 hlp hlt psB mbB tsB B i j ta bb W1.heap.size hil HJL.out.1 HJL.out.2 _ ?_ _ _ ⟨⟨⟨⟨rfl, rfl, rfl, by rw [HP.out]; rfl, rfl⟩, by rw [← HNP.out.1]; rfl, by rw [← HNP.out.1]; rfl, by rw [← HNP.out.1]; rfl⟩, by rw [← HNP.out.2]; rfl, by rw [← HNP.out.2]; rfl, by rw [← HNP.out.2]; rfl, by rw [← HNP.out.2]; rfl, by rw [← HNP.out.2]; rfl, by rw [← HNP.out.2]; rfl⟩, rfl, rfl, rfl, rfl, rfl⟩ lab A ks vs _ hS5
    clear hS5 hT2 hTo hFr r1 r2 r3 k0 k1 k2 HT1 HG1
    intro a w hF5
    obtain ⟨hL, e23, e24, e25, hG⟩ := hF5
    have HGF : Hid (TGS I w0 w psB mbB tsB B i (i + 1) ta (I.σi i (j + 1)) (I.σi i (j + 1))) := hG
    clear hG
    obtain ⟨x', rfl, hx⟩ := act_fr a hL.size hL.defers
    have e0 := hx _ _ hL.s0
    have e1 := hx _ _ hL.s1
    have e2 := hx _ _ hL.s2
    have e10 := hx _ _ hL.s10
    have e11 := hx _ _ hL.s11
    have e12 := hx _ _ hL.s12
    have e17 := hx _ _ hL.s17
    have e18 := hx _ _ hL.s18
    have e19 := hx _ _ hL.s19
    have e20 := hx _ _ hL.s20
    have e21 := hx _ _ hL.s21
    have e22 := hx _ _ hL.s22
    replace e23 := hx _ _ e23
    replace e24 := hx _ _ e24
    replace e25 := hx _ _ e25
    clear hx hL
    unfold ptr at e24
    rw [← HNP.out.1] at e10 e11 e12
    rw [← HNP.out.2] at e17 e18 e19 e20 e21 e22
    simp only [Exit.inBlock, Exit.then]
    simp only [fr, Nat.reduceAdd, e0, e1, e2, e10, e11, e12, e17, e18, e19, e20, e21, e22, e23, e24, e25]
    clear e0 e1 e2 e10 e11 e12 e17 e18 e19 e20 e21 e22 e23 e24 e25
    go_wp2_with fail
    refine ⟨⟨⟨⟨⟨rfl, rfl, rfl, rfl, rfl⟩, by rw [← HNP.out.1]; rfl, by rw [← HNP.out.1]; rfl, by rw [← HNP.out.1]; rfl⟩, by rw [← HNP.out.2]; rfl, by rw [← HNP.out.2]; rfl, by rw [← HNP.out.2]; rfl, by rw [← HNP.out.2]; rfl, by rw [← HNP.out.2]; rfl, by rw [← HNP.out.2]; rfl⟩, rfl, rfl, j + 1, by have := HJL.out.1; omega, rfl, HGF.out⟩, ?_⟩
    show (I.T i).nb - (intOf (.int .i64 ((j : Int) + 1))).toNat < (I.T i).nb - (intOf (.int .i64 (j : Int))).toNat
    have := HJL.out.1
    simp [intOf]
    omega
  · have hJ : ¬ (j : Int) < (I.T i).nb := by omega
    have hje : j = (I.T i).nb := by omega
    simp only [fr, Nat.reduceAdd, e0, e1, e2, e10, e11, e12, e17, e18, e19, e20, e21, e22, e23, e24, e25]
    clear e0 e1 e2 e10 e11 e12 e17 e18 e19 e20 e21 e22 e23 e24 e25
    go_wp2_with fail
    refine ⟨⟨⟨⟨rfl, rfl, rfl, by rw [HP.out]; rfl, rfl⟩, by rw [← HNP.out.1]; rfl, by rw [← HNP.out.1]; rfl, by rw [← HNP.out.1]; rfl⟩, by rw [← HNP.out.2]; rfl, by rw [← HNP.out.2]; rfl, by rw [← HNP.out.2]; rfl, by rw [← HNP.out.2]; rfl, by rw [← HNP.out.2]; rfl, by rw [← HNP.out.2]; rfl⟩, rfl, rfl, lab, A, ks, vs, HG.out.2, ?_⟩
    rw [← hje]
    exact HG.out.1
end Go.Proofs.Ybulkeyzg
