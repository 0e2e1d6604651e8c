import Derived.Test.YbulkeyzgD9
namespace Go.Proofs.Ybulkeyzg
open Go.RowKit

def F18 (I : Inp) (w0 : World) (psB mbB tsB rsB : Nat) (B : MB) (i inB ra j : Nat) (σ : Nat → TS) (wt : List Int) (rqv : Value) (a : Act) (w : World) : Prop := ∃ wtv, LvR I psB mbB tsB rsB B i inB ra rqv wtv a ∧ a.tmps[48]? = some (.int .i64 j) ∧ MSt I w0 w psB mbB tsB rsB B i inB ra σ wt rqv wtv

set_option maxRecDepth 100000 in
set_option maxHeartbeats 1000000 in
/-- region 109 -/
theorem p109 (I : Inp) (w0 : World) (psB mbB tsB rsB : Nat) (B : MB) (i inB ra j t : Nat) (htn : t < I.D.nt) (σ : Nat → TS) (wt : List Int) (hwl : wt.length ≤ 100000) (rqv wtv : Value)
    (lab : Lab) (A : Adr) (ks vs : Nat → Value) (w : World) (hra : A.ra i = ra) (hM : MS I w0 lab w A psB mbB tsB rsB B ks vs i inB (fun t => (σ t).s) (fun t => (σ t).f) (fun t => (σ t).kv) (fun t => (σ t).kv) wt rqv wtv)
    (a : Act) (hL : LvR I psB mbB tsB rsB B i inB ra rqv wtv a) (e48 : a.tmps[48]? = some (.int .i64 j)) (e49 : a.tmps[49]? = some (.int .i64 t)) (Q : Exit → Act → World → Prop)
    (hQ : ∀ a w, F18 I w0 psB mbB tsB rsB B i inB ra j (upd σ t (newT (σ t) (I.D.b i))) (wt ++ [newB (σ t).f (I.D.b i)]) rqv a w → Q .normal a w) :
    Code.wp Yba.prog (nav [1, 1, 1, 1, 1, 1, 1, 1, 1, 1, 1, 1, 1, 1, 1, 1, 1, 1, 1, 1, 1, 0, 1, 0, 0, 1, 0, 0, 1, 1, 1, 1, 1, 1, 1, 1, 1, 0, 0, 1, 0, 0, 1] (Yba.f3.body.getD .skip)) Q a w := by
  have hsz := hL.size
  have E12 := ev_of hL.s12
  have E19 := ev_of hL.s19
  have E20 := ev_of hL.s20
  have E31 := ev_of hL.s31
  have E34 := ev_of hL.s34
  have E49 := ev_of e49
  have hpn : I.D.p i < I.D.np := Nat.mod_lt _ I.D_fine.np
  have hmb : w.cell? ⟨mbB, I.D.p i, none⟩ = some (.int .i64 (I.D.b i)) := by
    have := hM.rs.pg.rmb.cell hpn
    rw [upto_lt _ _ hpn] at this
    exact this
  have c0 := hM.rs.mod.r0.cell (i := t) htn
  have z0 := hM.rs.mod.r0.frozen t
  have c1 := hM.rs.mod.r1.cell (i := t) htn
  have z1 := hM.rs.mod.r1.frozen t
  have hne : B.mf ≠ B.ms := tag_ne hM.rs.mod.t1 hM.rs.mod.t0 (by simp)
  have hnm0 : mbB ≠ B.ms := tag_ne hM.rs.pg.tmb hM.rs.mod.t0 (by simp)
  have hnm1 : mbB ≠ B.mf := tag_ne hM.rs.pg.tmb hM.rs.mod.t1 (by simp)
  have hml := hM.rs.pg.rmb.lt
  conv => arg 2; whnf
  refine wp_region_noPanic ?_
  refine wp_region_held_drew (S := fun w' => w'.cell? ⟨mbB, I.D.p i, none⟩ = some (.int .i64 (I.D.b i))) (by kernel_rfl) hmb (fun hS0 => ?_)
  refine wpAnyH_take (i := 0) (v := wtv) rfl (by kernel_rfl) (by kernel_rfl) (by kernel_rfl) (fun _ _ _ h => h) (y_run rfl fun w' hw' => r_move (.tmp 31) rfl E31) hS0 ?_
  refine wpAnyH_take (i := 1) (v := (.slice (some ⟨B.ms, 0, none⟩) I.D.nt I.D.nt)) rfl (by kernel_rfl) (by kernel_rfl) (by kernel_rfl) (fun _ _ _ h => h) (y_run rfl fun w' hw' => r_move (.tmp 19) rfl (by (iterate 1 (refine Eq.trans (ev_ne (by decide)) ?_)); exact E19)) hS0 ?_
  refine wpAnyH_take (i := 2) (v := (.int .i64 t)) rfl (by kernel_rfl) (by kernel_rfl) (by kernel_rfl) (fun _ _ _ h => h) (y_run rfl fun w' hw' => r_move (.tmp 49) rfl (by (iterate 2 (refine Eq.trans (ev_ne (by decide)) ?_)); exact E49)) hS0 ?_
  refine wpAnyH_take (i := 3) (v := (.pointer (some ⟨B.ms, t, none⟩))) rfl (by kernel_rfl) (by kernel_rfl) (by kernel_rfl) (fun _ _ _ h => h) (y_run rfl fun w' hw' => r_idx33 (n := I.D.nt) (c := I.D.nt) (.tmp 550) (.tmp 551) rfl htn (by (iterate 1 (refine Eq.trans (ev_ne (by decide)) ?_)); exact ev_same (by (repeat rw [put_size]); rw [hsz]; decide)) (by exact ev_same (by (repeat rw [put_size]); rw [hsz]; decide))) hS0 ?_
  refine wpAnyH_take (i := 4) (v := (.slice (some ⟨B.mf, 0, none⟩) I.D.nt I.D.nt)) rfl (by kernel_rfl) (by kernel_rfl) (by kernel_rfl) (fun _ _ _ h => h) (y_run rfl fun w' hw' => r_move (.tmp 20) rfl (by (iterate 4 (refine Eq.trans (ev_ne (by decide)) ?_)); exact E20)) hS0 ?_
  refine wpAnyH_take (i := 5) (v := (.int .i64 t)) rfl (by kernel_rfl) (by kernel_rfl) (by kernel_rfl) (fun _ _ _ h => h) (y_run rfl fun w' hw' => r_move (.tmp 49) rfl (by (iterate 5 (refine Eq.trans (ev_ne (by decide)) ?_)); exact E49)) hS0 ?_
  refine wpAnyH_take (i := 6) (v := (.pointer (some ⟨B.mf, t, none⟩))) rfl (by kernel_rfl) (by kernel_rfl) (by kernel_rfl) (fun _ _ _ h => h) (y_run rfl fun w' hw' => r_idx33 (n := I.D.nt) (c := I.D.nt) (.tmp 553) (.tmp 554) rfl htn (by (iterate 1 (refine Eq.trans (ev_ne (by decide)) ?_)); exact ev_same (by (repeat rw [put_size]); rw [hsz]; decide)) (by exact ev_same (by (repeat rw [put_size]); rw [hsz]; decide))) hS0 ?_
  refine wpAnyH_take (i := 7) (v := (.slice (some ⟨mbB, 0, none⟩) I.D.np I.D.np)) rfl (by kernel_rfl) (by kernel_rfl) (by kernel_rfl) (fun _ _ _ h => h) (y_run rfl fun w' hw' => r_move (.tmp 12) rfl (by (iterate 7 (refine Eq.trans (ev_ne (by decide)) ?_)); exact E12)) hS0 ?_
  refine wpAnyH_take (i := 8) (v := (.int .i64 (I.D.p i))) rfl (by kernel_rfl) (by kernel_rfl) (by kernel_rfl) (fun _ _ _ h => h) (y_run rfl fun w' hw' => r_move (.tmp 34) rfl (by (iterate 8 (refine Eq.trans (ev_ne (by decide)) ?_)); exact E34)) hS0 ?_
  refine wpAnyH_take (i := 9) (v := (.pointer (some ⟨mbB, I.D.p i, none⟩))) rfl (by kernel_rfl) (by kernel_rfl) (by kernel_rfl) (fun _ _ _ h => h) (y_run rfl fun w' hw' => r_idx33 (n := I.D.np) (c := I.D.np) (.tmp 556) (.tmp 557) rfl hpn (by (iterate 1 (refine Eq.trans (ev_ne (by decide)) ?_)); exact ev_same (by (repeat rw [put_size]); rw [hsz]; decide)) (by exact ev_same (by (repeat rw [put_size]); rw [hsz]; decide))) hS0 ?_
  refine wpAnyH_take (i := 10) (v := (.int .i64 (I.D.b i))) rfl (by kernel_rfl) (by kernel_rfl) (by kernel_rfl) (fun _ _ _ h => h) (y_run rfl fun w' hw' => r_loadB 3 (by simp) (.tmp 558) rfl (by exact ev_same (by (repeat rw [put_size]); rw [hsz]; decide)) hw') hS0 ?_
  refine wpAnyH_ready (rs := [11]) (by kernel_rfl) (by simp) ?_
  refine AllReadyH.cons rfl (fun K hK => ?_) AllReadyH.nil
  refine wp_call rfl (r_call7 (.tmp 552) (.tmp 555) (.tmp 559) rfl rfl (by (iterate 7 (refine Eq.trans (ev_ne (by decide)) ?_)); exact ev_same (by (repeat rw [put_size]); rw [hsz]; decide)) (by (iterate 4 (refine Eq.trans (ev_ne (by decide)) ?_)); exact ev_same (by (repeat rw [put_size]); rw [hsz]; decide)) (by exact ev_same (by (repeat rw [put_size]); rw [hsz]; decide))) (anew_any w.drew B.ms B.mf t t (σ t).s (σ t).f (I.D.b i) c0 z0 c1 z1 hne) ?_
  rintro e V ⟨rfl, hV⟩
  refine ⟨_, rfl, ?_⟩
  have hSV : V.cell? ⟨mbB, I.D.p i, none⟩ = some (.int .i64 (I.D.b i)) ∧ ∃ s f, (∀ u, u ≠ t → s u = (σ u).s ∧ f u = (σ u).f) ∧ s t = wrap64 ((σ t).s + 1) ∧ f t = newF (σ t).f (I.D.b i) ∧ Touch (InG lab 3) w V ∧ Mod lab V w0.heap.size I.D.nt B ks vs s f (fun t => (σ t).kv) (fun t => (σ t).kv) := by
    have hMd : Mod lab w.drew w0.heap.size I.D.nt B ks vs (fun t => (σ t).s) (fun t => (σ t).f) (fun t => (σ t).kv) (fun t => (σ t).kv) := hM.rs.mod.grow (K := fun _ => True) (Grow.of_same (Same.none hM.rs.labs (Touch.refl _ _).drew _)) trivial
    have hT0 : Touch (InG lab 3) w (w.drew.setCell ⟨B.ms, t, none⟩ (.int .i64 (wrap64 ((σ t).s + 1)))) := (Touch.refl _ _).drew.setCell (.inl ⟨_, hM.rs.mod.t0, rfl⟩) _
    by_cases hc : I.D.b i ≤ 320 ∧ (σ t).f < 8
    · rw [if_pos hc] at hV
      rw [hV]
      refine ⟨?_, _, _, fun u hu => ⟨upd_other _ _ hu, upd_other _ _ hu⟩, upd_same _ _ _, ?_, hT0.setCell (.inl ⟨_, hM.rs.mod.t1, rfl⟩) _, (hMd.setS t _).setF t _⟩
      · rw [← hmb]
        exact (World.cell?_of_block (a := ⟨mbB, I.D.p i, none⟩) (Go.Deep.blk_setCell_other _ _ _ _ hnm1)).trans (World.cell?_of_block (a := ⟨mbB, I.D.p i, none⟩) (Go.Deep.blk_setCell_other _ _ _ _ hnm0))
      · rw [upd_same]
        unfold newF
        rw [if_pos hc]
    · rw [if_neg hc] at hV
      rw [hV]
      refine ⟨?_, _, _, fun u hu => ⟨upd_other _ _ hu, rfl⟩, upd_same _ _ _, ?_, hT0, hMd.setS t _⟩
      · rw [← hmb]
        exact World.cell?_of_block (a := ⟨mbB, I.D.p i, none⟩) (Go.Deep.blk_setCell_other _ _ _ _ hnm0)
      · unfold newF
        rw [if_neg hc]
  obtain ⟨hS1, s, f, hsf, hst, hft, hT, hMV⟩ := hSV
  refine hK.out _ _ hS1 (fun _ => ?_)
  clear hK K
  have hFr : Free lab lab w V := Free.touch hT fun b ⟨y, hy, _⟩ => by rw [hy]; simp
  have hM2 := hM.mod3 hFr hT.size (hM.rs.labs.touchG hT) (Grow.of_same (Same.group hM.rs.labs hT)) hMV
  have hM3 := hM2.fin (σ := upd σ t (newT (σ t) (I.D.b i))) (fun u hu => by
    by_cases e : u = t
    · subst e
      rw [upd_same, hst, hft]
      exact ⟨rfl, rfl, rfl, rfl, rfl⟩
    · rw [upd_other _ _ e]
      exact ⟨(hsf u e).1, (hsf u e).2, rfl, rfl, rfl⟩)
  have hNs := hM3.rs.labs.bel.size
  have hmlV : mbB < V.heap.size := Nat.lt_of_lt_of_le hml hT.size
  have s1 : (V.alloc (.cells #[.int .i64 (newB (σ t).f (I.D.b i))] 3)).heap.size = V.heap.size + 1 := by show (V.heap.push _).size = _; simp
  have hS2 : (V.alloc (.cells #[.int .i64 (newB (σ t).f (I.D.b i))] 3)).cell? ⟨mbB, I.D.p i, none⟩ = some (.int .i64 (I.D.b i)) := (World.cell?_of_block (a := ⟨mbB, I.D.p i, none⟩) (Go.Deep.blk_alloc_lt V _ _ hmlV)).trans hS1
  refine wpAnyH_ready (rs := [12]) (by kernel_rfl) (by simp) ?_
  refine AllReadyH.cons rfl (fun K hK => ?_) AllReadyH.nil
  refine wp_val rfl (r_bsl33 (z := newB (σ t).f (I.D.b i)) (.tmp 560) rfl (by exact ev_same (by (repeat rw [put_size]); rw [hsz]; decide))) ?_
  refine hK.out _ _ hS2 (fun _ => ?_)
  clear hK K
  refine wpAnyH_ready (rs := [13]) (by kernel_rfl) (by simp) ?_
  refine AllReadyH.cons rfl (fun K hK => ?_) AllReadyH.nil
  refine step_appI 549 561 rfl rfl _ w0.heap.size wtv wt.length _ (newB (σ t).f (I.D.b i)) V.heap.size (hM3.rs.want.1.alloc _) hwl (by rw [s1]; omega) (Go.Deep.blk_alloc_new _ _) (by (iterate 12 (refine Eq.trans (ev_ne (by decide)) ?_)); exact ev_same (by (repeat rw [put_size]); rw [hsz]; decide)) (by exact ev_same (by (repeat rw [put_size]); rw [hsz]; decide)) ?_
  intro g cap w2 hown hgr hat hgl
  have hno : some mbB ≠ wtv.ownBlock := fun e => by have := hM3.rs.want.2 _ e.symm; rw [hM3.rs.pg.tmb] at this; cases this
  have hS3 : w2.cell? ⟨mbB, I.D.p i, none⟩ = some (.int .i64 (I.D.b i)) := (World.cell?_of_block (a := ⟨mbB, I.D.p i, none⟩) (hgr.block mbB (by rw [s1]; omega) hno)).trans hS2
  refine hK.out _ _ hS3 (fun _ => ?_)
  clear hK K
  refine wpAnyH_take (i := 14) (v := (.slice (some ⟨g, 0, none⟩) (wt.length + 1) cap)) rfl (by kernel_rfl) (by kernel_rfl) (by kernel_rfl) (fun _ _ _ h => h) (y_run rfl fun w' hw' => r_assign (.tmp 562) rfl (by exact ev_same (by (repeat rw [put_size]); rw [hsz]; decide))) hS3 ?_
  refine wpAnyH_done (by kernel_rfl) ?_ _
  have hTo : Touch (fun _ => False) V (V.alloc (.cells #[.int .i64 (newB (σ t).f (I.D.b i))] 3)) := (Touch.refl _ _).alloc _
  obtain ⟨lab', hFr2, hR2⟩ := hM3.rs.appWant (newB (σ t).f (I.D.b i)) hTo hgr hat hgl hown
  refine hQ _ _ ⟨.slice (some ⟨g, 0, none⟩) (wt.length + 1) cap, LvR.put31 (wtv := wtv) (hL.of ?_ ?_ fun q hq => ?_) _, ?_, lab', A, ks, vs, hra, hM3.tin.free hFr2 (by have := hgr.size; have := hTo.size; omega), hR2⟩
  · (repeat rw [put_size]); exact hsz
  · (repeat rw [put_defers]); exact hL.defers
  · (iterate 14 (refine Eq.trans (put_get (by omega)) ?_))
    rfl
  · (iterate 15 (refine Eq.trans (put_get (by decide)) ?_)); exact e48

def I18 (I : Inp) (w0 : World) (psB mbB tsB rsB : Nat) (B : MB) (i inB ra : Nat) (σ : Nat → TS) (wt : List Int) (rqv : Value) (a : Act) (w : World) : Prop := ∃ j : Nat, j ≤ (I.R i).nw ∧ F18 I w0 psB mbB tsB rsB B i inB ra j (I.D.wN i σ j) (wt ++ (List.range j).map (I.D.out i σ)) rqv a w
def M18 (I : Inp) (w0 : World) (psB mbB tsB rsB : Nat) (B : MB) (i inB ra : Nat) (σ : Nat → TS) (wt : List Int) (rqv : Value) (a : Act) (w : World) : Prop := ∃ wtv, LvR I psB mbB tsB rsB B i inB ra rqv wtv a ∧ MSt I w0 w psB mbB tsB rsB B i inB ra (I.D.wN i σ (I.R i).nw) (wt ++ (List.range (I.R i).nw).map (I.D.out i σ)) rqv wtv

set_option maxRecDepth 100000 in
set_option maxHeartbeats 4000000 in
theorem loop18 (I : Inp) (w0 : World) (hA : I.At w0) (hF : I.Fine) (hlt : I.lt ≤ 4096) (psB mbB tsB rsB : Nat) (B : MB) (i inB ra : Nat) (hil : i < I.lr) (hnw : (I.R i).nw ≤ 4096) (σ : Nat → TS) (wt : List Int) (hwl : wt.length ≤ 4096) (rqv : Value) (Q : Exit → Act → World → Prop) (K : Act → World → Prop) (hK : ∀ a w, M18 I w0 psB mbB tsB rsB B i inB ra σ wt rqv a w → K a w) (a : Act) (w : World) (h : I18 I w0 psB mbB tsB rsB B i inB ra σ wt rqv a w) :
    Code.wp Yba.prog (nav [1, 1, 1, 1, 1, 1, 1, 1, 1, 1, 1, 1, 1, 1, 1, 1, 1, 1, 1, 1, 1, 0, 1, 0, 0, 1, 0, 0, 1, 1, 1, 1, 1, 1, 1, 1, 1] (Yba.f3.body.getD .skip)) (Exit.then K Q) a w := by
  refine wp_block_loop K (I18 I w0 psB mbB tsB rsB B i inB ra σ wt rqv) (fun a _ => (I.R i).nw - (intOf (a.tmps.getD 48 undef)).toNat) h ?_
  clear h a w
  intro a w h
  obtain ⟨j, hj, wtv, hL, e48, lab, A, ks, vs, hra, hM⟩ := h
  obtain ⟨x, rfl, hx⟩ := act_fr a hL.size hL.defers
  have e0 := hx _ _ hL.s0
  have e1 := hx _ _ hL.s1
  have e2 := hx _ _ hL.s2
  have e10 := hx _ _ hL.s10
  have e11 := hx _ _ hL.s11
  have e12 := hx _ _ hL.s12
  have e17 := hx _ _ hL.s17
  have e18 := hx _ _ hL.s18
  have e19 := hx _ _ hL.s19
  have e20 := hx _ _ hL.s20
  have e21 := hx _ _ hL.s21
  have e22 := hx _ _ hL.s22
  have e29 := hx _ _ hL.s29
  have e30 := hx _ _ hL.s30
  have e31 := hx _ _ hL.s31
  have e32 := hx _ _ hL.s32
  have e33 := hx _ _ hL.s33
  have e34 := hx _ _ hL.s34
  have e35 := hx _ _ hL.s35
  replace e48 := hx _ _ e48
  clear hx hL
  unfold ptr at e33 e35
  have c4 := hM.tin.cell 4 _ rfl
  have hAw := hA.below hM.rs.labs.bel
  have HM : Hid (A.ra i = ra ∧ MS I w0 lab w A psB mbB tsB rsB B ks vs i inB (fun t => (I.D.wN i σ j t).s) (fun t => (I.D.wN i σ j t).f) (fun t => (I.D.wN i σ j t).kv) (fun t => (I.D.wN i σ j t).kv) (wt ++ (List.range j).map (I.D.out i σ)) rqv wtv) := ⟨hra, hM⟩
  clear hM hra
  have hnt0 := I.D_fine.nt
  have hnt : I.D.nt ≤ 4096 := by show (if I.lt = 0 then 1 else I.lt) ≤ 4096; split <;> omega
  obtain ⟨np, hnpe⟩ : ∃ np, np = I.D.np := ⟨_, rfl⟩
  obtain ⟨nt, hnte⟩ : ∃ nt, nt = I.D.nt := ⟨_, rfl⟩
  have HNP : Hid (np = I.D.np ∧ nt = I.D.nt) := ⟨hnpe, hnte⟩
  rw [← hnpe] at e10 e11 e12
  rw [← hnte] at e17 e18 e19 e20 e21 e22 hnt hnt0
  clear hnpe hnte
  by_cases hjl : j < (I.R i).nw
  · have hJ : (j : Int) < (I.R i).nw := by omega
    have HJL : Hid (j < (I.R i).nw ∧ (I.R i).nw ≤ 4096) := ⟨hjl, hnw⟩
    obtain ⟨b', off', hp', hb', d0⟩ := hAw.wait i hil j hjl
    have f1 := hF.q i hil j hjl
    rw [hp'] at c4
    obtain ⟨t, htE⟩ : ∃ t, t = (I.R i).q j := ⟨_, rfl⟩
    obtain ⟨nw, hnwE⟩ : ∃ nw, nw = (I.R i).nw := ⟨_, rfl⟩
    have HE : Hid (t = (I.R i).q j ∧ nw = (I.R i).nw) := ⟨htE, hnwE⟩
    rw [← htE] at d0 f1
    rw [← hnwE] at c4 hj hnw hJ hjl
    clear htE hnwE hp' hAw
    obtain ⟨tt, htt⟩ : ∃ tt, tt = t % nt := ⟨_, rfl⟩
    have HTT : Hid (tt = t % nt) := htt
    have htl : tt < nt := by rw [htt]; exact Nat.mod_lt _ hnt0
    have hmod : (t : Int) % (nt : Int) = (tt : Int) := by rw [htt]; rfl
    have hnt' : ¬ nt = 0 := by omega
    clear htt
    simp only [fr, Nat.reduceAdd, e0, e1, e2, e10, e11, e12, e17, e18, e19, e20, e21, e22, e29, e30, e31, e32, e33, e34, e35, e48]
    clear e0 e1 e2 e10 e11 e12 e17 e18 e19 e20 e21 e22 e29 e30 e31 e32 e33 e34 e35 e48
    go_upto_region 108 with fail
    rename_i K107 h107 K109 h109
    have hN : ∀ (a : Act) (w' : World), LvR I psB mbB tsB rsB B i inB ra rqv wtv a ∧ a.tmps[48]? = some (.int .i64 j) ∧ a.tmps[49]? = some (.int .i64 tt) ∧ w' = w → K109 a w' := by
      rintro a w' ⟨q1, q2, q3, rfl⟩
      refine h109 a w' ?_
      have htq : I.D.qt i j = tt := by
        show (I.R i).q j % I.D.nt = tt
        rw [← HE.out.1, ← HNP.out.2, ← HTT.out]
      refine p109 I w0 psB mbB tsB rsB B i inB ra j tt (by rw [← HNP.out.2]; exact htl) (I.D.wN i σ j) _ (by rw [List.length_append, List.length_map, List.length_range]; have := HJL.out; omega) rqv wtv lab A ks vs w' HM.out.1 HM.out.2 a q1 q2 q3 _ ?_
      clear q1 q2 q3 d0 c4 h109 hmod
      intro a wz hF18
      obtain ⟨wtv', hLv, e48, hS⟩ := hF18
      have HS : Hid (MSt I w0 wz psB mbB tsB rsB B i inB ra (I.D.wN i σ (j + 1)) (wt ++ (List.range (j + 1)).map (I.D.out i σ)) rqv wtv') := by
        unfold Hid
        rw [List.range_succ, List.map_append, List.map_singleton, ← List.append_assoc]
        show MSt I w0 wz psB mbB tsB rsB B i inB ra (upd (I.D.wN i σ j) (I.D.qt i j) (newT (I.D.wN i σ j (I.D.qt i j)) (I.D.b i))) (_ ++ [newB (I.D.wN i σ j (I.D.qt i j)).f (I.D.b i)]) rqv wtv'
        rw [htq]
        exact hS
      clear hS
      obtain ⟨x', rfl, hx⟩ := act_fr a hLv.size hLv.defers
      have e0 := hx _ _ hLv.s0
      have e1 := hx _ _ hLv.s1
      have e2 := hx _ _ hLv.s2
      have e10 := hx _ _ hLv.s10
      have e11 := hx _ _ hLv.s11
      have e12 := hx _ _ hLv.s12
      have e17 := hx _ _ hLv.s17
      have e18 := hx _ _ hLv.s18
      have e19 := hx _ _ hLv.s19
      have e20 := hx _ _ hLv.s20
      have e21 := hx _ _ hLv.s21
      have e22 := hx _ _ hLv.s22
      have e29 := hx _ _ hLv.s29
      have e30 := hx _ _ hLv.s30
      have e31 := hx _ _ hLv.s31
      have e32 := hx _ _ hLv.s32
      have e33 := hx _ _ hLv.s33
      have e34 := hx _ _ hLv.s34
      have e35 := hx _ _ hLv.s35
      replace e48 := hx _ _ e48
      clear hx hLv
      unfold ptr at e33 e35
      rw [← HNP.out.1] at e10 e11 e12
      rw [← HNP.out.2] at e17 e18 e19 e20 e21 e22
      simp only [Exit.inBlock, Exit.then]
      refine h107 _ _ ?_
      simp only [fr, Nat.reduceAdd, e0, e1, e2, e10, e11, e12, e17, e18, e19, e20, e21, e22, e29, e30, e31, e32, e33, e34, e35, e48]
      clear e0 e1 e2 e10 e11 e12 e17 e18 e19 e20 e21 e22 e29 e30 e31 e32 e33 e34 e35 e48
      go_wp2_with fail
      refine ⟨⟨j + 1, by have := HJL.out; omega, wtv', ⟨⟨⟨⟨rfl, rfl, rfl, rfl, rfl⟩, by rw [← HNP.out.1]; rfl, by rw [← HNP.out.1]; rfl, by rw [← HNP.out.1]; rfl⟩, by rw [← HNP.out.2]; rfl, by rw [← HNP.out.2]; rfl, by rw [← HNP.out.2]; rfl, by rw [← HNP.out.2]; rfl, by rw [← HNP.out.2]; rfl, by rw [← HNP.out.2]; rfl⟩, rfl, rfl, rfl, rfl, rfl, rfl, rfl⟩, rfl, HS.out⟩, ?_⟩
      show (I.R i).nw - (intOf (.int .i64 ((j : Int) + 1))).toNat < (I.R i).nw - (intOf (.int .i64 (j : Int))).toNat
      have := HJL.out
      simp [intOf]
      omega
    clear h109 h107
    go_wp2_with fail
    exact ⟨⟨⟨⟨rfl, rfl, rfl, rfl, rfl⟩, by rw [← HNP.out.1]; rfl, by rw [← HNP.out.1]; rfl, by rw [← HNP.out.1]; rfl⟩, by rw [← HNP.out.2]; rfl, by rw [← HNP.out.2]; rfl, by rw [← HNP.out.2]; rfl, by rw [← HNP.out.2]; rfl, by rw [← HNP.out.2]; rfl, by rw [← HNP.out.2]; rfl⟩, rfl, rfl, rfl, rfl, rfl, rfl, rfl⟩
  · have hJ : ¬ (j : Int) < (I.R i).nw := by omega
    have hje : j = (I.R i).nw := by omega
    simp only [fr, Nat.reduceAdd, e0, e1, e2, e10, e11, e12, e17, e18, e19, e20, e21, e22, e29, e30, e31, e32, e33, e34, e35, e48]
    clear e0 e1 e2 e10 e11 e12 e17 e18 e19 e20 e21 e22 e29 e30 e31 e32 e33 e34 e35 e48
    go_wp2_with fail
    refine ⟨wtv, ⟨⟨⟨⟨rfl, rfl, rfl, rfl, rfl⟩, by rw [← HNP.out.1]; rfl, by rw [← HNP.out.1]; rfl, by rw [← HNP.out.1]; rfl⟩, by rw [← HNP.out.2]; rfl, by rw [← HNP.out.2]; rfl, by rw [← HNP.out.2]; rfl, by rw [← HNP.out.2]; rfl, by rw [← HNP.out.2]; rfl, by rw [← HNP.out.2]; rfl⟩, rfl, rfl, rfl, rfl, rfl, rfl, rfl⟩, lab, A, ks, vs, HM.out.1, ?_⟩
    have := HM.out.2
    rw [hje] at this
    exact this
end Go.Proofs.Ybulkeyzg
