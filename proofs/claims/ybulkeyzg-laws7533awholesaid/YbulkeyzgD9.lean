import Derived.Test.YbulkeyzgD8
namespace Go.Proofs.Ybulkeyzg
open Go.RowKit

def I16 (I : Inp) (w0 : World) (psB mbB tsB rsB : Nat) (B : MB) (i inB ra : Nat) (σ : Nat → TS) (wt : List Int) (rqv wtv : Value) (a : Act) (w : World) : Prop := ∃ j : Nat, j ≤ (I.R i).nh ∧ F16 I w0 psB mbB tsB rsB B i inB ra j (I.D.hN i σ j) wt rqv wtv a w
def M16 (I : Inp) (w0 : World) (psB mbB tsB rsB : Nat) (B : MB) (i inB ra : Nat) (σ : Nat → TS) (wt : List Int) (rqv wtv : Value) (a : Act) (w : World) : Prop := LvR I psB mbB tsB rsB B i inB ra rqv wtv a ∧ MSt I w0 w psB mbB tsB rsB B i inB ra (I.D.hN i σ (I.R i).nh) wt rqv wtv

set_option maxRecDepth 100000 in
set_option maxHeartbeats 4000000 in
theorem loop16 (I : Inp) (w0 : World) (hA : I.At w0) (hF : I.Fine) (hlt : I.lt ≤ 4096) (psB mbB tsB rsB : Nat) (B : MB) (i inB ra : Nat) (hil : i < I.lr) (hnh : (I.R i).nh ≤ 4096) (σ : Nat → TS) (hFew : ∀ j, j ≤ (I.R i).nh → Few 100000 (I.D.hN i σ j)) (wt : List Int) (rqv wtv : Value) (Q : Exit → Act → World → Prop) (K : Act → World → Prop) (hK : ∀ a w, M16 I w0 psB mbB tsB rsB B i inB ra σ wt rqv wtv a w → K a w) (a : Act) (w : World) (h : I16 I w0 psB mbB tsB rsB B i inB ra σ wt rqv wtv a w) :
    Code.wp Yba.prog (nav [1, 1, 1, 1, 1, 1, 1, 1, 1, 1, 1, 1, 1, 1, 1, 1, 1, 1, 1, 1, 1, 0, 1, 0, 0, 1, 0, 0, 1, 1, 1, 1, 1, 1, 1, 0, 1] (Yba.f3.body.getD .skip)) (Exit.then K Q) a w := by
  refine wp_block_loop K (I16 I w0 psB mbB tsB rsB B i inB ra σ wt rqv wtv) (fun a _ => (I.R i).nh - (intOf (a.tmps.getD 40 undef)).toNat) h ?_
  clear h a w
  intro a w h
  obtain ⟨j, hj, hL, e40, lab, A, ks, vs, hra, hM⟩ := h
  obtain ⟨x, rfl, hx⟩ := act_fr a hL.size hL.defers
  have e0 := hx _ _ hL.s0
  have e1 := hx _ _ hL.s1
  have e2 := hx _ _ hL.s2
  have e10 := hx _ _ hL.s10
  have e11 := hx _ _ hL.s11
  have e12 := hx _ _ hL.s12
  have e17 := hx _ _ hL.s17
  have e18 := hx _ _ hL.s18
  have e19 := hx _ _ hL.s19
  have e20 := hx _ _ hL.s20
  have e21 := hx _ _ hL.s21
  have e22 := hx _ _ hL.s22
  have e29 := hx _ _ hL.s29
  have e30 := hx _ _ hL.s30
  have e31 := hx _ _ hL.s31
  have e32 := hx _ _ hL.s32
  have e33 := hx _ _ hL.s33
  have e34 := hx _ _ hL.s34
  have e35 := hx _ _ hL.s35
  replace e40 := hx _ _ e40
  clear hx hL
  unfold ptr at e33 e35
  have c3 := hM.tin.cell 3 _ rfl
  have c2 := hM.tin.cell 2 _ rfl
  have hAw := hA.below hM.rs.labs.bel
  have hinl := hM.tin.lt
  have HM : Hid (A.ra i = ra ∧ MS I w0 lab w A psB mbB tsB rsB B ks vs i inB (fun t => (I.D.hN i σ j t).s) (fun t => (I.D.hN i σ j t).f) (fun t => (I.D.hN i σ j t).kv) (fun t => (I.D.hN i σ j t).kv) wt rqv wtv) := ⟨hra, hM⟩
  clear hM hra
  have hnt0 := I.D_fine.nt
  have hnt : I.D.nt ≤ 4096 := by show (if I.lt = 0 then 1 else I.lt) ≤ 4096; split <;> omega
  obtain ⟨np, hnpe⟩ : ∃ np, np = I.D.np := ⟨_, rfl⟩
  obtain ⟨nt, hnte⟩ : ∃ nt, nt = I.D.nt := ⟨_, rfl⟩
  have HNP : Hid (np = I.D.np ∧ nt = I.D.nt) := ⟨hnpe, hnte⟩
  rw [← hnpe] at e10 e11 e12
  rw [← hnte] at e17 e18 e19 e20 e21 e22 hnt hnt0
  clear hnpe hnte
  by_cases hjl : j < (I.R i).nh
  · have hJ : (j : Int) < (I.R i).nh := by omega
    have HJL : Hid (j < (I.R i).nh) := hjl
    have HFW : Hid (Few 100000 (I.D.hN i σ j)) := hFew j hj
    obtain ⟨b', off', hp', hb', d0, d1, d2, d3⟩ := hAw.held i hil j hjl
    obtain ⟨f1, f2, f3⟩ := hF.h i hil j hjl
    rw [hp'] at c3
    obtain ⟨t, htE⟩ : ∃ t, t = ((I.R i).h j).t := ⟨_, rfl⟩
    obtain ⟨m, hmE⟩ : ∃ m, m = ((I.R i).h j).m := ⟨_, rfl⟩
    obtain ⟨k, hkE⟩ : ∃ k, k = ((I.R i).h j).k := ⟨_, rfl⟩
    obtain ⟨imp, hiE⟩ : ∃ imp, imp = ((I.R i).h j).imp := ⟨_, rfl⟩
    obtain ⟨nh, hnhE⟩ : ∃ nh, nh = (I.R i).nh := ⟨_, rfl⟩
    obtain ⟨sup, hsE⟩ : ∃ sup, sup = (I.R i).sup := ⟨_, rfl⟩
    have HE : Hid (t = ((I.R i).h j).t ∧ m = ((I.R i).h j).m ∧ k = ((I.R i).h j).k ∧ imp = ((I.R i).h j).imp ∧ nh = (I.R i).nh ∧ sup = (I.R i).sup) := ⟨htE, hmE, hkE, hiE, hnhE, hsE⟩
    rw [← htE] at d0 f1
    rw [← hmE] at d1
    rw [← hkE] at d2 f3
    rw [← hiE] at d3
    rw [← hnhE] at c3 hj hnh hJ hjl
    rw [← hsE] at c2
    clear htE hmE hkE hiE hnhE hp' hAw f2 hsE
    obtain ⟨tt, htt⟩ : ∃ tt, tt = t % nt := ⟨_, rfl⟩
    have HTT : Hid (tt = t % nt) := htt
    have htl : tt < nt := by rw [htt]; exact Nat.mod_lt _ hnt0
    have hmod : (t : Int) % (nt : Int) = (tt : Int) := by rw [htt]; rfl
    obtain ⟨k4, hk4⟩ : ∃ k4, k4 = k % 4 := ⟨_, rfl⟩
    have HK4 : Hid (k4 = k % 4) := hk4
    have hk4l : k4 < 4 := by omega
    have hmodk : (k : Int) % 4 = (k4 : Int) := by rw [hk4]; rfl
    have hnt' : ¬ nt = 0 := by omega
    clear htt hk4
    simp only [fr, Nat.reduceAdd, e0, e1, e2, e10, e11, e12, e17, e18, e19, e20, e21, e22, e29, e30, e31, e32, e33, e34, e35, e40]
    clear e0 e1 e2 e10 e11 e12 e17 e18 e19 e20 e21 e22 e29 e30 e31 e32 e33 e34 e35 e40
    go_upto_region 87 with fail
    rename_i K85 h85 K88 h88 K87 h87
    have hEnd : ∀ (a : Act) (w : World), F16 I w0 psB mbB tsB rsB B i inB ra j (I.D.hN i σ (j + 1)) wt rqv wtv a w → K85 a w := by
      clear h87 h88 c3 c2 d0 d1 d2 d3
      intro a w hF16
      obtain ⟨hLv, e40, hS⟩ := hF16
      have HS : Hid (MSt I w0 w psB mbB tsB rsB B i inB ra (I.D.hN i σ (j + 1)) wt rqv wtv) := hS
      clear hS
      obtain ⟨x', rfl, hx⟩ := act_fr a hLv.size hLv.defers
      have e0 := hx _ _ hLv.s0
      have e1 := hx _ _ hLv.s1
      have e2 := hx _ _ hLv.s2
      have e10 := hx _ _ hLv.s10
      have e11 := hx _ _ hLv.s11
      have e12 := hx _ _ hLv.s12
      have e17 := hx _ _ hLv.s17
      have e18 := hx _ _ hLv.s18
      have e19 := hx _ _ hLv.s19
      have e20 := hx _ _ hLv.s20
      have e21 := hx _ _ hLv.s21
      have e22 := hx _ _ hLv.s22
      have e29 := hx _ _ hLv.s29
      have e30 := hx _ _ hLv.s30
      have e31 := hx _ _ hLv.s31
      have e32 := hx _ _ hLv.s32
      have e33 := hx _ _ hLv.s33
      have e34 := hx _ _ hLv.s34
      have e35 := hx _ _ hLv.s35
      replace e40 := hx _ _ e40
      clear hx hLv
      unfold ptr at e33 e35
      rw [← HNP.out.1] at e10 e11 e12
      rw [← HNP.out.2] at e17 e18 e19 e20 e21 e22
      refine h85 _ _ ?_
      simp only [fr, Nat.reduceAdd, e0, e1, e2, e10, e11, e12, e17, e18, e19, e20, e21, e22, e29, e30, e31, e32, e33, e34, e35, e40]
      clear e0 e1 e2 e10 e11 e12 e17 e18 e19 e20 e21 e22 e29 e30 e31 e32 e33 e34 e35 e40
      go_wp2_with fail
      refine ⟨⟨j + 1, by have := HJL.out; omega, ⟨⟨⟨⟨rfl, rfl, rfl, rfl, rfl⟩, by rw [← HNP.out.1]; rfl, by rw [← HNP.out.1]; rfl, by rw [← HNP.out.1]; rfl⟩, by rw [← HNP.out.2]; rfl, by rw [← HNP.out.2]; rfl, by rw [← HNP.out.2]; rfl, by rw [← HNP.out.2]; rfl, by rw [← HNP.out.2]; rfl, by rw [← HNP.out.2]; rfl⟩, rfl, rfl, rfl, rfl, rfl, rfl, rfl⟩, rfl, HS.out⟩, ?_⟩
      show (I.R i).nh - (intOf (.int .i64 ((j : Int) + 1))).toNat < (I.R i).nh - (intOf (.int .i64 (j : Int))).toNat
      have := HJL.out
      simp [intOf]
      omega
    clear h85
    have hT1 : Touch (fun _ => False) w (w.alloc (.cells #[.int .u8 t, .int .u8 m, .int .u8 k, .bool imp] 74)) := (Touch.refl _ _).alloc _
    have hTH : Tmp lab (w.alloc (.cells #[.int .u8 t, .int .u8 m, .int .u8 k, .bool imp] 74)) w.heap.size [.int .u8 t, .int .u8 m, .int .u8 k, .bool imp] := Tmp.new HM.out.2.rs.labs _ _
    have HM1 : Hid (A.ra i = ra ∧ MS I w0 lab (w.alloc (.cells #[.int .u8 t, .int .u8 m, .int .u8 k, .bool imp] 74)) A psB mbB tsB rsB B ks vs i inB (fun t => (I.D.hN i σ j t).s) (fun t => (I.D.hN i σ j t).f) (fun t => (I.D.hN i σ j t).kv) (fun t => (I.D.hN i σ j t).kv) wt rqv wtv) := ⟨HM.out.1, HM.out.2.touch0 hT1⟩
    clear hT1 HM c3 c2 d0 d1 d2 d3 hinl hb'
    generalize w.alloc (.cells #[.int .u8 t, .int .u8 m, .int .u8 k, .bool imp] 74) = W at *
    generalize w.heap.size = hB at *
    have HTH : Hid (Tmp lab W hB [.int .u8 t, .int .u8 m, .int .u8 k, .bool imp]) := hTH
    have g0 := hTH.cell 0 _ rfl
    have g2 := hTH.cell 2 _ rfl
    have g3 := hTH.cell 3 _ rfl
    have c2 := HM1.out.2.tin.cell 2 _ rfl
    rw [← HE.out.2.2.2.2.2] at c2
    clear hTH
    cases imp with
    | true =>
      have HST : Hid (I.D.hN i σ (j + 1) = I.D.hN i σ j) := by
        show I.D.hStep i j _ = _
        unfold Dat.hStep
        rw [if_pos (by show ((I.R i).h j).imp = true; exact HE.out.2.2.2.1.symm)]
      clear h88
      go_wp2_with fail
      refine ⟨⟨⟨⟨⟨rfl, rfl, rfl, rfl, rfl⟩, by rw [← HNP.out.1]; rfl, by rw [← HNP.out.1]; rfl, by rw [← HNP.out.1]; rfl⟩, by rw [← HNP.out.2]; rfl, by rw [← HNP.out.2]; rfl, by rw [← HNP.out.2]; rfl, by rw [← HNP.out.2]; rfl, by rw [← HNP.out.2]; rfl, by rw [← HNP.out.2]; rfl⟩, rfl, rfl, rfl, rfl, rfl, rfl, rfl⟩, rfl, lab, A, ks, vs, HM1.out.1, ?_⟩
      rw [HST.out]
      exact HM1.out.2
    | false =>
      have HST : Hid (I.D.hN i σ (j + 1) = upd (I.D.hN i σ j) (I.D.ht i j) (keepT (I.D.hN i σ j (I.D.ht i j)) (I.D.key i j) (I.R i).heap ((I.R i).nw == 0) (I.D.b i))) := by
        show I.D.hStep i j _ = _
        unfold Dat.hStep
        rw [if_neg (by show ¬ ((I.R i).h j).imp = true; rw [← HE.out.2.2.2.1]; simp)]
        rfl
      have HHT : Hid (I.D.ht i j = tt) := by
        show ((I.R i).h j).t % I.D.nt = tt
        rw [← HE.out.1, ← HNP.out.2, ← HTT.out]
      go_upto_region 90 with fail
      rename_i K92 h92 K90 h90
      have hN : ∀ (a : Act) (w : World), P92 I w0 psB mbB tsB rsB B i inB ra j tt (I.D.hN i σ j) wt rqv wtv a w → K92 a w := by
        intro a w hP
        obtain ⟨lab, A, ks, vs, hB, m, kd, tb, kb, q1, q2, q3, q4, q5, q6, q7, q8, q9⟩ := hP
        refine h92 a w ?_
        refine p92 I w0 psB mbB tsB rsB B i inB ra j tt hB m kd tb kb (by rw [← HNP.out.2]; exact htl) (I.D.hN i σ j) HFW.out wt rqv wtv q1 lab A ks vs w q2 q3 q4 a q5 q6 q7 q8 q9 _ ?_ ?_
        · intro a w hF
          rw [← HHT.out, ← HST.out] at hF
          exact hEnd a w hF
        · intro a w hF
          rw [← HHT.out, ← HST.out] at hF
          exact hEnd a w hF
      clear h92 hEnd
      cases sup with
      | true =>
        by_cases hk1 : k4 = 1
        · subst hk1
          have HKY : Hid (I.D.key i j = (I.D.p i, m % 3, 2)) := by
            show (I.D.p i, ((I.R i).h j).m % 3, kd (I.R i).sup (((I.R i).h j).k % 4)) = _
            rw [← HE.out.2.1, ← HE.out.2.2.1, ← HE.out.2.2.2.2.2, ← HK4.out]
            rfl
          go_wp2_with fail
          exact ⟨lab, A, ks, vs, hB, m, 2, .int .u8 t, .int .u8 k, HKY.out, HM1.out.1, ⟨HTH.out.tag, HTH.out.lt, fun q v hq => HTH.out.cell q v (by
            match q, hq with
            | 0, hq => exact hq
            | 1, hq => exact hq
            | 2, hq => exact hq
            | n + 3, hq => simp at hq)⟩, HM1.out.2, ⟨⟨⟨⟨rfl, rfl, rfl, rfl, rfl⟩, by rw [← HNP.out.1]; rfl, by rw [← HNP.out.1]; rfl, by rw [← HNP.out.1]; rfl⟩, by rw [← HNP.out.2]; rfl, by rw [← HNP.out.2]; rfl, by rw [← HNP.out.2]; rfl, by rw [← HNP.out.2]; rfl, by rw [← HNP.out.2]; rfl, by rw [← HNP.out.2]; rfl⟩, rfl, rfl, rfl, rfl, rfl, rfl, rfl⟩, rfl, rfl, by show some (Value.int .i64 ((t : Int) % nt)) = _; rw [hmod], rfl⟩
        · have hk1' : ((k4 : Int) == 1) = false := by simp; omega
          have HKY : Hid (I.D.key i j = (I.D.p i, m % 3, k4)) := by
            show (I.D.p i, ((I.R i).h j).m % 3, kd (I.R i).sup (((I.R i).h j).k % 4)) = _
            rw [← HE.out.2.1, ← HE.out.2.2.1, ← HE.out.2.2.2.2.2, ← HK4.out]
            unfold kd
            rw [if_neg fun h => hk1 h.2]
          clear hk1
          go_wp2_with fail
          exact ⟨lab, A, ks, vs, hB, m, k4, .int .u8 t, .int .u8 k, HKY.out, HM1.out.1, ⟨HTH.out.tag, HTH.out.lt, fun q v hq => HTH.out.cell q v (by
            match q, hq with
            | 0, hq => exact hq
            | 1, hq => exact hq
            | 2, hq => exact hq
            | n + 3, hq => simp at hq)⟩, HM1.out.2, ⟨⟨⟨⟨rfl, rfl, rfl, rfl, rfl⟩, by rw [← HNP.out.1]; rfl, by rw [← HNP.out.1]; rfl, by rw [← HNP.out.1]; rfl⟩, by rw [← HNP.out.2]; rfl, by rw [← HNP.out.2]; rfl, by rw [← HNP.out.2]; rfl, by rw [← HNP.out.2]; rfl, by rw [← HNP.out.2]; rfl, by rw [← HNP.out.2]; rfl⟩, rfl, rfl, rfl, rfl, rfl, rfl, rfl⟩, rfl, rfl, by show some (Value.int .i64 ((t : Int) % nt)) = _; rw [hmod], by show some (Value.int .u8 ((k : Int) % 4)) = _; rw [hmodk]⟩
      | false =>
        have HKY : Hid (I.D.key i j = (I.D.p i, m % 3, k4)) := by
          show (I.D.p i, ((I.R i).h j).m % 3, kd (I.R i).sup (((I.R i).h j).k % 4)) = _
          rw [← HE.out.2.1, ← HE.out.2.2.1, ← HE.out.2.2.2.2.2, ← HK4.out]
          unfold kd
          rw [if_neg fun h => by cases h.1]
        go_wp2_with fail
        exact ⟨lab, A, ks, vs, hB, m, k4, .int .u8 t, .int .u8 k, HKY.out, HM1.out.1, ⟨HTH.out.tag, HTH.out.lt, fun q v hq => HTH.out.cell q v (by
          match q, hq with
          | 0, hq => exact hq
          | 1, hq => exact hq
          | 2, hq => exact hq
          | n + 3, hq => simp at hq)⟩, HM1.out.2, ⟨⟨⟨⟨rfl, rfl, rfl, rfl, rfl⟩, by rw [← HNP.out.1]; rfl, by rw [← HNP.out.1]; rfl, by rw [← HNP.out.1]; rfl⟩, by rw [← HNP.out.2]; rfl, by rw [← HNP.out.2]; rfl, by rw [← HNP.out.2]; rfl, by rw [← HNP.out.2]; rfl, by rw [← HNP.out.2]; rfl, by rw [← HNP.out.2]; rfl⟩, rfl, rfl, rfl, rfl, rfl, rfl, rfl⟩, rfl, rfl, by show some (Value.int .i64 ((t : Int) % nt)) = _; rw [hmod], by show some (Value.int .u8 ((k : Int) % 4)) = _; rw [hmodk]⟩
  · have hJ : ¬ (j : Int) < (I.R i).nh := by omega
    have hje : j = (I.R i).nh := by omega
    simp only [fr, Nat.reduceAdd, e0, e1, e2, e10, e11, e12, e17, e18, e19, e20, e21, e22, e29, e30, e31, e32, e33, e34, e35, e40]
    clear e0 e1 e2 e10 e11 e12 e17 e18 e19 e20 e21 e22 e29 e30 e31 e32 e33 e34 e35 e40
    go_wp2_with fail
    refine ⟨⟨⟨⟨⟨rfl, rfl, rfl, rfl, rfl⟩, by rw [← HNP.out.1]; rfl, by rw [← HNP.out.1]; rfl, by rw [← HNP.out.1]; rfl⟩, by rw [← HNP.out.2]; rfl, by rw [← HNP.out.2]; rfl, by rw [← HNP.out.2]; rfl, by rw [← HNP.out.2]; rfl, by rw [← HNP.out.2]; rfl, by rw [← HNP.out.2]; rfl⟩, rfl, rfl, rfl, rfl, rfl, rfl, rfl⟩, lab, A, ks, vs, HM.out.1, ?_⟩
    have := HM.out.2
    rw [hje] at this
    exact this
end Go.Proofs.Ybulkeyzg
