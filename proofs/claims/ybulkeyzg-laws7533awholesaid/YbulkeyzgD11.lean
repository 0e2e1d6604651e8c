import Derived.Test.YbulkeyzgD10
namespace Go.Proofs.Ybulkeyzg
open Go.RowKit

theorem wp_then_self {P : Program} {c : Code} {Q : Exit → Act → World → Prop} {a : Act} {w : World} (h : c.wp P (Exit.then (fun a w => Q .normal a w) Q) a w) : c.wp P Q a w :=
  Code.wp_mono (fun e a w h => by cases e <;> exact h) h

/-- what a record's round may lean on -/
structure RH (I : Inp) (w0 : World) (i : Nat) (σ : Nat → TS) (wt : List Int) : Prop where
  lies : I.At w0
  fine : I.Fine
  lt : I.lt ≤ 4096
  il : i < I.lr
  lr : I.lr ≤ 4096
  nh : (I.R i).nh ≤ 4096
  nw : (I.R i).nw ≤ 4096
  off : I.D.off i ≤ 4096
  few : ∀ j, j ≤ (I.R i).nh → Few 100000 (I.D.hN i σ j)
  wl : wt.length ≤ 4096
/-- behind a record's round -/
def F10 (I : Inp) (w0 : World) (psB mbB tsB rsB : Nat) (B : MB) (i inB ra : Nat) (σ : Nat → TS) (wt : List Int) (a : Act) (w : World) : Prop :=
  ∃ rqv wtv, LvR I psB mbB tsB rsB B i inB ra rqv wtv a ∧ MSt I w0 w psB mbB tsB rsB B i inB ra (I.D.wN i (I.D.hN i σ (I.R i).nh) (I.R i).nw) (wt ++ (List.range (I.R i).nw).map (I.D.out i (I.D.hN i σ (I.R i).nh))) rqv wtv

section
variable {ρ : Operand → Value} {o : Oper} {w : World}
theorem r_idx66 (x y : Operand) (ho : o.op = .indexAddr 66 x y) {b n c i : Nat} (hi : i < n) (h : ρ x = .slice (some ⟨b, 0, none⟩) n c) (h' : ρ y = .int .i64 i) : (execOp ρ o).run Yba.prog w = .ok (.value (.pointer (some ⟨b, i, none⟩))) w := by
  have u3 := Yba.underlying66
  have u4 := Yba.underlying39
  have h0 : (0 : Int) ≤ i := by omega
  have h1 : (i : Int) < n := by omega
  unfold execOp; rw [ho]; simp only; go_simp
theorem r_store39 (x y : Operand) (ho : o.op = .store 39 x y) {b q r : Nat} {v' : Value} (h : ρ x = .pointer (some ⟨b, q, none⟩)) (h' : ρ y = ptr r) (hc : w.cell? ⟨b, q, none⟩ = some v') (hz : w.frozen? ⟨b, q, none⟩ = false) : (execOp ρ o).run Yba.prog w = .ok .skip (w.setCell ⟨b, q, none⟩ (ptr r)) := by
  unfold ptr at *
  have u3 := Yba.underlying39
  unfold execOp; rw [ho]; simp only; go_simp
end

set_option maxRecDepth 100000 in
set_option maxHeartbeats 4000000 in
theorem x8 (I : Inp) (w0 : World) (psB mbB tsB rsB : Nat) (B : MB) (i inB ra : Nat) (σ : Nat → TS) (wt : List Int) (H : RH I w0 i σ wt) (rqv wtv : Value) (Q : Exit → Act → World → Prop) (hQ : ∀ a w, F10 I w0 psB mbB tsB rsB B i inB ra σ wt a w → Q .normal a w) (a : Act) (w : World) (hL : LvR I psB mbB tsB rsB B i inB ra rqv wtv a) (hS : MSt I w0 w psB mbB tsB rsB B i inB ra (I.D.hN i σ (I.R i).nh) wt rqv wtv) :
    Code.wp Yba.prog (nav [1, 1, 1, 1, 1, 1, 1, 1, 1, 1, 1, 1, 1, 1, 1, 1, 1, 1, 1, 1, 1, 0, 1, 0, 0, 1, 0, 0, 1, 1, 1, 1, 1, 1, 1, 1] (Yba.f3.body.getD .skip)) Q a w := by
  obtain ⟨x, rfl, hx⟩ := act_fr a hL.size hL.defers
  have e0 := hx _ _ hL.s0
  have e1 := hx _ _ hL.s1
  have e2 := hx _ _ hL.s2
  have e10 := hx _ _ hL.s10
  have e11 := hx _ _ hL.s11
  have e12 := hx _ _ hL.s12
  have e17 := hx _ _ hL.s17
  have e18 := hx _ _ hL.s18
  have e19 := hx _ _ hL.s19
  have e20 := hx _ _ hL.s20
  have e21 := hx _ _ hL.s21
  have e22 := hx _ _ hL.s22
  have e29 := hx _ _ hL.s29
  have e30 := hx _ _ hL.s30
  have e31 := hx _ _ hL.s31
  have e32 := hx _ _ hL.s32
  have e33 := hx _ _ hL.s33
  have e34 := hx _ _ hL.s34
  have e35 := hx _ _ hL.s35
  clear hx hL
  unfold ptr at e33 e35
  have HS : Hid (MSt I w0 w psB mbB tsB rsB B i inB ra (I.D.hN i σ (I.R i).nh) wt rqv wtv) := hS
  clear hS
  simp only [fr, Nat.reduceAdd, e0, e1, e2, e10, e11, e12, e17, e18, e19, e20, e21, e22, e29, e30, e31, e32, e33, e34, e35]
  clear e0 e1 e2 e10 e11 e12 e17 e18 e19 e20 e21 e22 e29 e30 e31 e32 e33 e34 e35
  conv => arg 2; whnf
  go_upto_block 18 with fail
  refine wp_then_self ?_
  refine loop18 I w0 H.lies H.fine H.lt psB mbB tsB rsB B i inB ra H.il H.nw (I.D.hN i σ (I.R i).nh) wt H.wl rqv Q _ ?_ _ _ ⟨0, Nat.zero_le _, wtv, ⟨⟨⟨⟨rfl, rfl, rfl, rfl, rfl⟩, rfl, rfl, rfl⟩, rfl, rfl, rfl, rfl, rfl, rfl⟩, rfl, rfl, rfl, rfl, rfl, rfl, rfl⟩, rfl, ?_⟩
  · rintro a w ⟨wtv', h1, h2⟩
    exact hQ a w ⟨rqv, wtv', h1, h2⟩
  · have := HS.out
    simpa [Dat.wN] using this

set_option maxRecDepth 100000 in
set_option maxHeartbeats 4000000 in
theorem x7 (I : Inp) (w0 : World) (psB mbB tsB rsB : Nat) (B : MB) (i inB ra : Nat) (σ : Nat → TS) (wt : List Int) (H : RH I w0 i σ wt) (rqv wtv : Value) (Q : Exit → Act → World → Prop) (hQ : ∀ a w, F10 I w0 psB mbB tsB rsB B i inB ra σ wt a w → Q .normal a w) (a : Act) (w : World) (hL : LvR I psB mbB tsB rsB B i inB ra rqv wtv a) (hS : MSt I w0 w psB mbB tsB rsB B i inB ra σ wt rqv wtv) :
    Code.wp Yba.prog (nav [1, 1, 1, 1, 1, 1, 1, 1, 1, 1, 1, 1, 1, 1, 1, 1, 1, 1, 1, 1, 1, 0, 1, 0, 0, 1, 0, 0, 1, 1, 1, 1, 1, 1, 1] (Yba.f3.body.getD .skip)) Q a w := by
  obtain ⟨x, rfl, hx⟩ := act_fr a hL.size hL.defers
  have e0 := hx _ _ hL.s0
  have e1 := hx _ _ hL.s1
  have e2 := hx _ _ hL.s2
  have e10 := hx _ _ hL.s10
  have e11 := hx _ _ hL.s11
  have e12 := hx _ _ hL.s12
  have e17 := hx _ _ hL.s17
  have e18 := hx _ _ hL.s18
  have e19 := hx _ _ hL.s19
  have e20 := hx _ _ hL.s20
  have e21 := hx _ _ hL.s21
  have e22 := hx _ _ hL.s22
  have e29 := hx _ _ hL.s29
  have e30 := hx _ _ hL.s30
  have e31 := hx _ _ hL.s31
  have e32 := hx _ _ hL.s32
  have e33 := hx _ _ hL.s33
  have e34 := hx _ _ hL.s34
  have e35 := hx _ _ hL.s35
  clear hx hL
  unfold ptr at e33 e35
  have HS : Hid (MSt I w0 w psB mbB tsB rsB B i inB ra σ wt rqv wtv) := hS
  clear hS
  simp only [fr, Nat.reduceAdd, e0, e1, e2, e10, e11, e12, e17, e18, e19, e20, e21, e22, e29, e30, e31, e32, e33, e34, e35]
  clear e0 e1 e2 e10 e11 e12 e17 e18 e19 e20 e21 e22 e29 e30 e31 e32 e33 e34 e35
  conv => arg 2; whnf
  go_upto_block 16 with fail
  rename_i KX hKX
  refine loop16 I w0 H.lies H.fine H.lt psB mbB tsB rsB B i inB ra H.il H.nh σ H.few wt rqv wtv Q KX ?_ _ _ ⟨0, Nat.zero_le _, ⟨⟨⟨⟨rfl, rfl, rfl, rfl, rfl⟩, rfl, rfl, rfl⟩, rfl, rfl, rfl, rfl, rfl, rfl⟩, rfl, rfl, rfl, rfl, rfl, rfl, rfl⟩, rfl, HS.out⟩
  rintro a w ⟨h1, h2⟩
  exact hKX a w (x8 I w0 psB mbB tsB rsB B i inB ra σ wt H rqv wtv Q hQ a w h1 h2)

set_option maxRecDepth 100000 in
set_option maxHeartbeats 4000000 in
theorem x6 (I : Inp) (w0 : World) (psB mbB tsB rsB : Nat) (B : MB) (i inB ra : Nat) (σ : Nat → TS) (wt : List Int) (H : RH I w0 i σ wt) (rqv wtv : Value) (Q : Exit → Act → World → Prop) (hQ : ∀ a w, F10 I w0 psB mbB tsB rsB B i inB ra σ wt a w → Q .normal a w) (a : Act) (w : World) (hL : LvR I psB mbB tsB rsB B i inB ra rqv wtv a) (hS : RSt I w0 w psB mbB tsB rsB B i inB ra i (I.R i).nh (I.R i).nw σ wt rqv wtv) :
    Code.wp Yba.prog (nav [1, 1, 1, 1, 1, 1, 1, 1, 1, 1, 1, 1, 1, 1, 1, 1, 1, 1, 1, 1, 1, 0, 1, 0, 0, 1, 0, 0, 1, 1, 1, 1, 1, 1] (Yba.f3.body.getD .skip)) Q a w := by
  obtain ⟨lab, A, ks, vs, hra, hTin, hR⟩ := hS
  have hsz := hL.size
  have E29 := ev_of hL.s29
  have E32 := ev_of hL.s32
  have E35 := ev_of hL.s35
  have c0 := hR.rrs.cell (i := i) H.il
  have z0 := hR.rrs.frozen i
  have hS7 : MSt I w0 (w.setCell ⟨rsB, i, none⟩ (ptr ra)) psB mbB tsB rsB B i inB ra σ wt rqv wtv := by
    have h1 := hR.setRs
    rw [hra] at h1
    have hT : Touch (fun b => b = rsB) w (w.setCell ⟨rsB, i, none⟩ (ptr ra)) := Touch.setCell (S := fun b => b = rsB) (Touch.refl _ _) (.inl rfl) _
    exact ⟨lab, A, ks, vs, hra, hTin.free (Free.touch hT fun b hb => by rw [hb, hR.trs]; simp) hT.size, h1⟩
  conv => arg 2; whnf
  refine wp_seq ?_
  refine wp_region_lit ?_
  refine l_val 426 rfl rfl (r_move (.tmp 29) rfl E29) ?_
  refine l_val 427 rfl rfl (r_move (v := .int .i64 i) (.tmp 32) rfl (by (iterate 1 (refine Eq.trans (ev_ne (by decide)) ?_)); exact E32)) ?_
  refine l_val 428 rfl rfl (r_move (v := ptr ra) (.tmp 35) rfl (by (iterate 2 (refine Eq.trans (ev_ne (by decide)) ?_)); exact E35)) ?_
  refine l_val 429 rfl rfl (r_idx66 (b := rsB) (n := I.lr) (c := I.lr) (i := i) (.tmp 426) (.tmp 427) rfl H.il (by (iterate 2 (refine Eq.trans (ev_ne (by decide)) ?_)); exact ev_same (by (repeat rw [put_size]); rw [hsz]; decide)) (by (iterate 1 (refine Eq.trans (ev_ne (by decide)) ?_)); exact ev_same (by (repeat rw [put_size]); rw [hsz]; decide))) ?_
  refine l_store rfl rfl (r_store39 (b := rsB) (q := i) (r := ra) (.tmp 429) (.tmp 428) rfl (by exact ev_same (by (repeat rw [put_size]); rw [hsz]; decide)) (by (iterate 1 (refine Eq.trans (ev_ne (by decide)) ?_)); exact ev_same (by (repeat rw [put_size]); rw [hsz]; decide)) c0 z0) ?_
  refine wpList_nil ?_
  show Code.wp Yba.prog _ Q _ _
  exact x7 I w0 psB mbB tsB rsB B i inB ra σ wt H rqv wtv Q hQ _ _ (hL.of (by (repeat rw [put_size]); exact hsz) (by (repeat rw [put_defers]); exact hL.defers) (fun q hq => by
    (iterate 4 (refine Eq.trans (put_get (by omega)) ?_))
    rfl)) hS7

set_option maxRecDepth 100000 in
set_option maxHeartbeats 4000000 in
theorem x5 (I : Inp) (w0 : World) (psB mbB tsB rsB : Nat) (B : MB) (i inB ra : Nat) (σ : Nat → TS) (wt : List Int) (H : RH I w0 i σ wt) (rqv wtv : Value) (Q : Exit → Act → World → Prop) (hQ : ∀ a w, F10 I w0 psB mbB tsB rsB B i inB ra σ wt a w → Q .normal a w) (a : Act) (w : World) (hL : LvR I psB mbB tsB rsB B i inB ra rqv wtv a) (hS : RSt I w0 w psB mbB tsB rsB B i inB ra i (I.R i).nh 0 σ wt rqv wtv) :
    Code.wp Yba.prog (nav [1, 1, 1, 1, 1, 1, 1, 1, 1, 1, 1, 1, 1, 1, 1, 1, 1, 1, 1, 1, 1, 0, 1, 0, 0, 1, 0, 0, 1, 1, 1, 1, 1] (Yba.f3.body.getD .skip)) Q a w := by
  obtain ⟨x, rfl, hx⟩ := act_fr a hL.size hL.defers
  have e0 := hx _ _ hL.s0
  have e1 := hx _ _ hL.s1
  have e2 := hx _ _ hL.s2
  have e10 := hx _ _ hL.s10
  have e11 := hx _ _ hL.s11
  have e12 := hx _ _ hL.s12
  have e17 := hx _ _ hL.s17
  have e18 := hx _ _ hL.s18
  have e19 := hx _ _ hL.s19
  have e20 := hx _ _ hL.s20
  have e21 := hx _ _ hL.s21
  have e22 := hx _ _ hL.s22
  have e29 := hx _ _ hL.s29
  have e30 := hx _ _ hL.s30
  have e31 := hx _ _ hL.s31
  have e32 := hx _ _ hL.s32
  have e33 := hx _ _ hL.s33
  have e34 := hx _ _ hL.s34
  have e35 := hx _ _ hL.s35
  clear hx hL
  unfold ptr at e33 e35
  have HS : Hid (RSt I w0 w psB mbB tsB rsB B i inB ra i (I.R i).nh 0 σ wt rqv wtv) := hS
  clear hS
  simp only [fr, Nat.reduceAdd, e0, e1, e2, e10, e11, e12, e17, e18, e19, e20, e21, e22, e29, e30, e31, e32, e33, e34, e35]
  clear e0 e1 e2 e10 e11 e12 e17 e18 e19 e20 e21 e22 e29 e30 e31 e32 e33 e34 e35
  conv => arg 2; whnf
  go_upto_block 14 with fail
  rename_i KX hKX
  refine loop14 I w0 H.lies H.fine H.lt psB mbB tsB rsB B i inB ra H.il H.nw H.off σ wt wtv Q KX ?_ _ _ ⟨rqv, ⟨⟨⟨⟨rfl, rfl, rfl, rfl, rfl⟩, rfl, rfl, rfl⟩, rfl, rfl, rfl, rfl, rfl, rfl⟩, rfl, rfl, rfl, rfl, rfl, rfl, rfl⟩, 0, Nat.zero_le _, rfl, HS.out⟩
  rintro a w ⟨rqv', h1, h2⟩
  exact hKX a w (x6 I w0 psB mbB tsB rsB B i inB ra σ wt H rqv' wtv Q hQ a w h1 h2)

set_option maxRecDepth 100000 in
set_option maxHeartbeats 4000000 in
theorem x4 (I : Inp) (w0 : World) (psB mbB tsB rsB : Nat) (B : MB) (i inB ra : Nat) (σ : Nat → TS) (wt : List Int) (H : RH I w0 i σ wt) (rqv wtv : Value) (Q : Exit → Act → World → Prop) (hQ : ∀ a w, F10 I w0 psB mbB tsB rsB B i inB ra σ wt a w → Q .normal a w) (a : Act) (w : World) (hL : LvR I psB mbB tsB rsB B i inB ra rqv wtv a) (hS : RSt I w0 w psB mbB tsB rsB B i inB ra i 0 0 σ wt rqv wtv) :
    Code.wp Yba.prog (nav [1, 1, 1, 1, 1, 1, 1, 1, 1, 1, 1, 1, 1, 1, 1, 1, 1, 1, 1, 1, 1, 0, 1, 0, 0, 1, 0, 0, 1, 1, 1, 1] (Yba.f3.body.getD .skip)) Q a w := by
  obtain ⟨x, rfl, hx⟩ := act_fr a hL.size hL.defers
  have e0 := hx _ _ hL.s0
  have e1 := hx _ _ hL.s1
  have e2 := hx _ _ hL.s2
  have e10 := hx _ _ hL.s10
  have e11 := hx _ _ hL.s11
  have e12 := hx _ _ hL.s12
  have e17 := hx _ _ hL.s17
  have e18 := hx _ _ hL.s18
  have e19 := hx _ _ hL.s19
  have e20 := hx _ _ hL.s20
  have e21 := hx _ _ hL.s21
  have e22 := hx _ _ hL.s22
  have e29 := hx _ _ hL.s29
  have e30 := hx _ _ hL.s30
  have e31 := hx _ _ hL.s31
  have e32 := hx _ _ hL.s32
  have e33 := hx _ _ hL.s33
  have e34 := hx _ _ hL.s34
  have e35 := hx _ _ hL.s35
  clear hx hL
  unfold ptr at e33 e35
  have HS : Hid (RSt I w0 w psB mbB tsB rsB B i inB ra i 0 0 σ wt rqv wtv) := hS
  clear hS
  simp only [fr, Nat.reduceAdd, e0, e1, e2, e10, e11, e12, e17, e18, e19, e20, e21, e22, e29, e30, e31, e32, e33, e34, e35]
  clear e0 e1 e2 e10 e11 e12 e17 e18 e19 e20 e21 e22 e29 e30 e31 e32 e33 e34 e35
  conv => arg 2; whnf
  go_upto_block 12 with fail
  rename_i KX hKX
  refine loop12 I w0 H.lies H.fine H.lt psB mbB tsB rsB B i inB ra H.il H.nh σ wt rqv wtv Q KX ?_ _ _ ⟨⟨⟨⟨⟨rfl, rfl, rfl, rfl, rfl⟩, rfl, rfl, rfl⟩, rfl, rfl, rfl, rfl, rfl, rfl⟩, rfl, rfl, rfl, rfl, rfl, rfl, rfl⟩, 0, Nat.zero_le _, rfl, HS.out⟩
  rintro a w ⟨h1, h2⟩
  exact hKX a w (x5 I w0 psB mbB tsB rsB B i inB ra σ wt H rqv wtv Q hQ a w h1 h2)
end Go.Proofs.Ybulkeyzg
