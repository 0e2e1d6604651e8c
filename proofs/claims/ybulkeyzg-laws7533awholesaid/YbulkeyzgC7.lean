import Derived.Test.YbulkeyzgC7a
namespace Go.Proofs.Ybulkeyzg
open Go.RowKit

def P80 (I : Inp) (w0 : World) (psB mbB tsB rsB : Nat) (B : MB) (i inB ra j : Nat) (σ : Nat → TS) (wt : List Int) (rqv wtv : Value) (a : Act) (W1 : World) : Prop :=
  ∃ (w : World) (lab : Lab) (A : Adr) (ks vs : Nat → Value) (qb : Nat), A.ra i = ra ∧ Tmp lab w inB (inL I i) ∧ RS I w0 lab w A psB mbB tsB rsB B ks vs i (i + 1) (upd (NH I) i (I.R i).nh) (upd (NW I) i j) (I.D.off i + j) (fun t => (σ t).s) (fun t => (σ t).f) (fun t => (σ t).kv) (fun t => (σ t).kv) wt rqv wtv ∧
    Touch (fun _ => False) w W1 ∧ w.heap.size ≤ qb ∧ qb < W1.heap.size ∧ QObj W1 qb (A.ta (I.D.qt i j)) (-7) ∧ LvR I psB mbB tsB rsB B i inB ra rqv wtv a ∧ a.tmps[38]? = some (.int .i64 j) ∧ a.tmps[39]? = some (ptr qb)

def I14 (I : Inp) (w0 : World) (psB mbB tsB rsB : Nat) (B : MB) (i inB ra : Nat) (σ : Nat → TS) (wt : List Int) (wtv : Value) (a : Act) (w : World) : Prop := ∃ rqv, LvR I psB mbB tsB rsB B i inB ra rqv wtv a ∧ ∃ j : Nat, j ≤ (I.R i).nw ∧ a.tmps[38]? = some (.int .i64 j) ∧ RSt I w0 w psB mbB tsB rsB B i inB ra i (I.R i).nh j σ wt rqv wtv
def M14 (I : Inp) (w0 : World) (psB mbB tsB rsB : Nat) (B : MB) (i inB ra : Nat) (σ : Nat → TS) (wt : List Int) (wtv : Value) (a : Act) (w : World) : Prop := ∃ rqv, LvR I psB mbB tsB rsB B i inB ra rqv wtv a ∧ RSt I w0 w psB mbB tsB rsB B i inB ra i (I.R i).nh (I.R i).nw σ wt rqv wtv

set_option maxRecDepth 100000 in
set_option maxHeartbeats 4000000 in
theorem loop14 (I : Inp) (w0 : World) (hA : I.At w0) (hF : I.Fine) (hlt : I.lt ≤ 4096) (psB mbB tsB rsB : Nat) (B : MB) (i inB ra : Nat) (hil : i < I.lr) (hnw : (I.R i).nw ≤ 4096) (hoff : I.D.off i ≤ 4096) (σ : Nat → TS) (wt : List Int) (wtv : Value) (Q : Exit → Act → World → Prop) (K : Act → World → Prop) (hK : ∀ a w, M14 I w0 psB mbB tsB rsB B i inB ra σ wt wtv a w → K a w) (a : Act) (w : World) (h : I14 I w0 psB mbB tsB rsB B i inB ra σ wt wtv a w) :
    Code.wp Yba.prog (nav [1, 1, 1, 1, 1, 1, 1, 1, 1, 1, 1, 1, 1, 1, 1, 1, 1, 1, 1, 1, 1, 0, 1, 0, 0, 1, 0, 0, 1, 1, 1, 1, 1, 0, 1] (Yba.f3.body.getD .skip)) (Exit.then K Q) a w := by
  refine wp_block_loop K (I14 I w0 psB mbB tsB rsB B i inB ra σ wt wtv) (fun a _ => (I.R i).nw - (intOf (a.tmps.getD 38 undef)).toNat) h ?_
  clear h a w
  intro a w h
  obtain ⟨rqv, hL, j, hj, e38, lab, A, ks, vs, hra, hTin, hR⟩ := h
  obtain ⟨x, rfl, hx⟩ := act_fr a hL.size hL.defers
  have e0 := hx _ _ hL.s0
  have e1 := hx _ _ hL.s1
  have e2 := hx _ _ hL.s2
  have e10 := hx _ _ hL.s10
  have e11 := hx _ _ hL.s11
  have e12 := hx _ _ hL.s12
  have e17 := hx _ _ hL.s17
  have e18 := hx _ _ hL.s18
  have e19 := hx _ _ hL.s19
  have e20 := hx _ _ hL.s20
  have e21 := hx _ _ hL.s21
  have e22 := hx _ _ hL.s22
  have e29 := hx _ _ hL.s29
  have e30 := hx _ _ hL.s30
  have e31 := hx _ _ hL.s31
  have e32 := hx _ _ hL.s32
  have e33 := hx _ _ hL.s33
  have e34 := hx _ _ hL.s34
  have e35 := hx _ _ hL.s35
  replace e38 := hx _ _ e38
  clear hx hL
  unfold ptr at e33 e35
  have c4 := hTin.cell 4 _ rfl
  have hAw := hA.below hR.labs.bel
  have HR : Hid (A.ra i = ra ∧ Tmp lab w inB (inL I i) ∧ RS I w0 lab w A psB mbB tsB rsB B ks vs i (i + 1) (upd (NH I) i (I.R i).nh) (upd (NW I) i j) (I.D.off i + j) (fun t => (σ t).s) (fun t => (σ t).f) (fun t => (σ t).kv) (fun t => (σ t).kv) wt rqv wtv) := ⟨hra, hTin, hR⟩
  clear hR hra hTin
  have hnt0 := I.D_fine.nt
  have hnt : I.D.nt ≤ 4096 := by show (if I.lt = 0 then 1 else I.lt) ≤ 4096; split <;> omega
  obtain ⟨np, hnpe⟩ : ∃ np, np = I.D.np := ⟨_, rfl⟩
  obtain ⟨nt, hnte⟩ : ∃ nt, nt = I.D.nt := ⟨_, rfl⟩
  have HNP : Hid (np = I.D.np ∧ nt = I.D.nt) := ⟨hnpe, hnte⟩
  rw [← hnpe] at e10 e11 e12
  rw [← hnte] at e17 e18 e19 e20 e21 e22 hnt hnt0
  clear hnpe hnte
  by_cases hjl : j < (I.R i).nw
  · have hJ : (j : Int) < (I.R i).nw := by omega
    have HJL : Hid (j < (I.R i).nw) := hjl
    have HNW : Hid ((I.R i).nw ≤ 4096) := hnw
    obtain ⟨b', off', hp', hb', d0⟩ := hAw.wait i hil j hjl
    have f1 := hF.q i hil j hjl
    rw [hp'] at c4
    obtain ⟨t, htE⟩ : ∃ t, t = (I.R i).q j := ⟨_, rfl⟩
    obtain ⟨nw, hnwE⟩ : ∃ nw, nw = (I.R i).nw := ⟨_, rfl⟩
    have HE : Hid (t = (I.R i).q j ∧ nw = (I.R i).nw) := ⟨htE, hnwE⟩
    rw [← htE] at d0 f1
    rw [← hnwE] at c4 hj hnw hJ hjl
    clear htE hnwE hp' hAw
    obtain ⟨tt, htt⟩ : ∃ tt, tt = t % nt := ⟨_, rfl⟩
    have HTT : Hid (tt = t % nt) := htt
    have htl : tt < nt := by rw [htt]; exact Nat.mod_lt _ hnt0
    have hmod : (t : Int) % (nt : Int) = (tt : Int) := by rw [htt]; rfl
    clear htt
    have hts := HR.out.2.2.rts.cell (i := tt) (by rw [← HNP.out.2]; exact htl)
    unfold ptr at hts
    have hm1 : (tt : Int) < (nt : Int) := by omega
    have hnt' : ¬ nt = 0 := by omega
    simp only [fr, Nat.reduceAdd, e0, e1, e2, e10, e11, e12, e17, e18, e19, e20, e21, e22, e29, e30, e31, e32, e33, e34, e35, e38]
    clear e0 e1 e2 e10 e11 e12 e17 e18 e19 e20 e21 e22 e29 e30 e31 e32 e33 e34 e35 e38
    go_upto_region 79 with fail
    rename_i K79 hK79
    have hN : ∀ (a : Act) (w : World), P80 I w0 psB mbB tsB rsB B i inB ra j σ wt rqv wtv a w → K79 a w := by
      intro a w h
      refine hK79 a w ?_
      obtain ⟨w', lab, A, ks, vs, qb, h1, h2, h3, h4, h5, h6, h7, h8, h9, h10⟩ := h
      refine r8081 I w0 psB mbB tsB rsB B i inB ra j qb σ wt rqv wtv HJL.out HNW.out hoff lab A ks vs w' w h1 h2 h3 h4 h5 h6 h7 a h8 h9 h10 _ ?_
      clear h1 h2 h3 h4 h5 h6 h7 h8 h9 h10 hts hmod hm1 d0 c4 hb'
      clear hK79
      intro a' wz rqv' hLv e38 hS
      have HS : Hid (RSt I w0 wz psB mbB tsB rsB B i inB ra i (I.R i).nh (j + 1) σ wt rqv' wtv) := hS
      clear hS
      obtain ⟨x', rfl, hx⟩ := act_fr a' hLv.size hLv.defers
      have e0 := hx _ _ hLv.s0
      have e1 := hx _ _ hLv.s1
      have e2 := hx _ _ hLv.s2
      have e10 := hx _ _ hLv.s10
      have e11 := hx _ _ hLv.s11
      have e12 := hx _ _ hLv.s12
      have e17 := hx _ _ hLv.s17
      have e18 := hx _ _ hLv.s18
      have e19 := hx _ _ hLv.s19
      have e20 := hx _ _ hLv.s20
      have e21 := hx _ _ hLv.s21
      have e22 := hx _ _ hLv.s22
      have e29 := hx _ _ hLv.s29
      have e30 := hx _ _ hLv.s30
      have e31 := hx _ _ hLv.s31
      have e32 := hx _ _ hLv.s32
      have e33 := hx _ _ hLv.s33
      have e34 := hx _ _ hLv.s34
      have e35 := hx _ _ hLv.s35
      replace e38 := hx _ _ e38
      clear hx hLv
      unfold ptr at e33 e35
      rw [← HNP.out.1] at e10 e11 e12
      rw [← HNP.out.2] at e17 e18 e19 e20 e21 e22
      simp only [Exit.inBlock, Exit.then]
      simp only [fr, Nat.reduceAdd, e0, e1, e2, e10, e11, e12, e17, e18, e19, e20, e21, e22, e29, e30, e31, e32, e33, e34, e35, e38]
      clear e0 e1 e2 e10 e11 e12 e17 e18 e19 e20 e21 e22 e29 e30 e31 e32 e33 e34 e35 e38
      go_wp2_with fail
      refine ⟨⟨rqv', ⟨⟨⟨⟨rfl, rfl, rfl, rfl, rfl⟩, by rw [← HNP.out.1]; rfl, by rw [← HNP.out.1]; rfl, by rw [← HNP.out.1]; rfl⟩, by rw [← HNP.out.2]; rfl, by rw [← HNP.out.2]; rfl, by rw [← HNP.out.2]; rfl, by rw [← HNP.out.2]; rfl, by rw [← HNP.out.2]; rfl, by rw [← HNP.out.2]; rfl⟩, rfl, rfl, rfl, rfl, rfl, rfl, rfl⟩, j + 1, by have := HJL.out; omega, rfl, HS.out⟩, ?_⟩
      show (I.R i).nw - (intOf (.int .i64 ((j : Int) + 1))).toNat < (I.R i).nw - (intOf (.int .i64 (j : Int))).toNat
      have := HJL.out
      simp [intOf]
      omega
    clear hK79
    go_wp2_with fail
    have hT1 : Touch (fun _ => False) w (w.alloc (.cells #[.pointer (some ⟨A.ta tt, 0, none⟩), .int .u8 0, .int .u8 0, .pointer (some ⟨ra, 0, none⟩), .pointer none, .int .i64 0, .int .i64 (-7), .int .i64 0, .bool false, .bool false] 83)) := (Touch.refl _ _).alloc _
    have hQO : QObj (w.alloc (.cells #[.pointer (some ⟨A.ta tt, 0, none⟩), .int .u8 0, .int .u8 0, .pointer (some ⟨ra, 0, none⟩), .pointer none, .int .i64 0, .int .i64 (-7), .int .i64 0, .bool false, .bool false] 83)) w.heap.size (A.ta (I.D.qt i j)) (-7) := by
      have htq : I.D.qt i j = tt := by
        show (I.R i).q j % I.D.nt = tt
        rw [← HE.out.1, ← HNP.out.2, ← HTT.out]
      rw [htq]
      exact ⟨_, World.rowIs_alloc w #[.pointer (some ⟨A.ta tt, 0, none⟩), .int .u8 0, .int .u8 0, .pointer (some ⟨ra, 0, none⟩), .pointer none, .int .i64 0, .int .i64 (-7), .int .i64 0, .bool false, .bool false] 83 (fun q => (#[.pointer (some ⟨A.ta tt, 0, none⟩), .int .u8 0, .int .u8 0, .pointer (some ⟨ra, 0, none⟩), .pointer none, .int .i64 0, .int .i64 (-7), .int .i64 0, .bool false, .bool false][q]?).getD undef) (fun q hq => by rw [Array.getElem?_eq_getElem hq]; rfl), rfl, rfl⟩
    have hs1 : (w.alloc (.cells #[.pointer (some ⟨A.ta tt, 0, none⟩), .int .u8 0, .int .u8 0, .pointer (some ⟨ra, 0, none⟩), .pointer none, .int .i64 0, .int .i64 (-7), .int .i64 0, .bool false, .bool false] 83)).heap.size = w.heap.size + 1 := by show (w.heap.push _).size = _; simp
    exact ⟨w, lab, A, ks, vs, w.heap.size, HR.out.1, HR.out.2.1, HR.out.2.2, hT1, Nat.le_refl _, by rw [hs1]; omega, hQO, ⟨⟨⟨⟨rfl, rfl, rfl, rfl, rfl⟩, by rw [← HNP.out.1]; rfl, by rw [← HNP.out.1]; rfl, by rw [← HNP.out.1]; rfl⟩, by rw [← HNP.out.2]; rfl, by rw [← HNP.out.2]; rfl, by rw [← HNP.out.2]; rfl, by rw [← HNP.out.2]; rfl, by rw [← HNP.out.2]; rfl, by rw [← HNP.out.2]; rfl⟩, rfl, rfl, rfl, rfl, rfl, rfl, rfl⟩, rfl, rfl⟩
  · have hJ : ¬ (j : Int) < (I.R i).nw := by omega
    have hje : j = (I.R i).nw := by omega
    simp only [fr, Nat.reduceAdd, e0, e1, e2, e10, e11, e12, e17, e18, e19, e20, e21, e22, e29, e30, e31, e32, e33, e34, e35, e38]
    clear e0 e1 e2 e10 e11 e12 e17 e18 e19 e20 e21 e22 e29 e30 e31 e32 e33 e34 e35 e38
    go_wp2_with fail
    refine ⟨rqv, ⟨⟨⟨⟨rfl, rfl, rfl, rfl, rfl⟩, by rw [← HNP.out.1]; rfl, by rw [← HNP.out.1]; rfl, by rw [← HNP.out.1]; rfl⟩, by rw [← HNP.out.2]; rfl, by rw [← HNP.out.2]; rfl, by rw [← HNP.out.2]; rfl, by rw [← HNP.out.2]; rfl, by rw [← HNP.out.2]; rfl, by rw [← HNP.out.2]; rfl⟩, rfl, rfl, rfl, rfl, rfl, rfl, rfl⟩, lab, A, ks, vs, HR.out.1, HR.out.2.1, ?_⟩
    have := HR.out.2.2
    rw [hje] at this
    exact this
end Go.Proofs.Ybulkeyzg
