import Derived.Test.YbulkeyzgD4
namespace Go.Proofs.Ybulkeyzg
open Go.RowKit

theorem r_call7 {ρ : Operand → Value} {o : Oper} {w : World} (x y z : Operand) (ho : o.op = .call { callee := .value (.func 7), args := #[x, y, z], argTypes := #[85, 85, 3] }) (hf : ρ (.func 7) = .func (.func 7) #[] #[]) {a b c : Value} (h1 : ρ x = a) (h2 : ρ y = b) (h3 : ρ z = c) : (execOp ρ o).run Yba.prog w = .ok (.enter 7 #[a, b, c]) w := by
  unfold execOp; rw [ho]; simp only; go_simp
theorem wp_call {P : Program} {ops : Array Oper} {o : Oper} {a : Act} {w : World} {K : Act → World → Prop} {Q : Exit → Act → World → Prop} {E : Prop} {fn : Nat} {args : Array Value} {R : Ending → World → Prop} (hg : o.guard = none) (h : (execOp a.eval o).run P w = .ok (.enter fn args) w) (hc : Calls P fn args w R) (hR : ∀ e w', R e w' → ∃ v, e = .returned v ∧ K (a.put o.dst v) w') :
    if Region.wanted o (yielded ops a.tmps) = true then Oper.wp P o a w K Q else E := by
  rw [if_pos (by simp [Region.wanted, hg])]
  unfold Oper.wp
  rw [h]
  refine Calls.mono hc fun e w' hr => ?_
  obtain ⟨v, rfl, hk⟩ := hR e w' hr
  exact hk

set_option maxRecDepth 100000 in
set_option maxHeartbeats 1000000 in
/-- regions 98 to 104 -/
theorem p98 (I : Inp) (w0 : World) (psB mbB tsB rsB : Nat) (B : MB) (i inB ra j t kB : Nat) (htn : t < I.D.nt) (k : Key) (σ : Nat → TS) (hF : Few 100000 σ) (wt : List Int) (rqv wtv : Value)
    (lab : Lab) (A : Adr) (ks vs : Nat → Value) (w : World) (hra : A.ra i = ra) (hTk : Tmp lab w kB (keyC k)) (σ' : Nat → TS) (hσ : σ' = upd σ t ⟨wrap64 ((σ t).s + 1), newF (σ t).f (I.D.b i), put k (mx (get k (σ t).kv) (newB (σ t).f (I.D.b i))) (σ t).kv⟩) (hM : MS I w0 lab w A psB mbB tsB rsB B ks vs i inB (fun t => (σ t).s) (fun t => (σ t).f) (fun t => (σ t).kv) (fun t => (σ t).kv) wt rqv wtv)
    (a : Act) (hL : LvR I psB mbB tsB rsB B i inB ra rqv wtv a) (e40 : a.tmps[40]? = some (.int .i64 j)) (e42 : a.tmps[42]? = some (.int .i64 t)) (e44 : a.tmps[44]? = some (ptr kB)) (e45 : a.tmps[45]? = some (.int .i64 (ixV (idx k (σ t).kv)))) (e46 : a.tmps[46]? = some (.int .i64 (get k (σ t).kv))) (Q : Exit → Act → World → Prop) (hQ : ∀ a w, F16 I w0 psB mbB tsB rsB B i inB ra j σ' wt rqv wtv a w → Q .normal a w) :
    Code.wp Yba.prog (nav [1, 1, 1, 1, 1, 1, 1, 1, 1, 1, 1, 1, 1, 1, 1, 1, 1, 1, 1, 1, 1, 0, 1, 0, 0, 1, 0, 0, 1, 1, 1, 1, 1, 1, 1, 0, 1, 0, 0, 1, 0, 0, 1, 1, 1, 1, 1, 1, 1, 1, 1, 1] (Yba.f3.body.getD .skip)) Q a w := by
  have hsz := hL.size
  have E12 := ev_of hL.s12
  have E19 := ev_of hL.s19
  have E20 := ev_of hL.s20
  have E34 := ev_of hL.s34
  have E42 := ev_of e42
  have hpn : I.D.p i < I.D.np := Nat.mod_lt _ I.D_fine.np
  have hmb : w.cell? ⟨mbB, I.D.p i, none⟩ = some (.int .i64 (I.D.b i)) := by
    have := hM.rs.pg.rmb.cell hpn
    rw [upto_lt _ _ hpn] at this
    exact this
  have c0 := hM.rs.mod.r0.cell (i := t) htn
  have z0 := hM.rs.mod.r0.frozen t
  have c1 := hM.rs.mod.r1.cell (i := t) htn
  have z1 := hM.rs.mod.r1.frozen t
  have hne : B.mf ≠ B.ms := tag_ne hM.rs.mod.t1 hM.rs.mod.t0 (by simp)
  have hnm0 : mbB ≠ B.ms := tag_ne hM.rs.pg.tmb hM.rs.mod.t0 (by simp)
  have hnm1 : mbB ≠ B.mf := tag_ne hM.rs.pg.tmb hM.rs.mod.t1 (by simp)
  conv => arg 2; whnf
  refine wp_seq ?_
  refine wp_region_noPanic ?_
  refine wp_region_held_drew (S := fun w' => w'.cell? ⟨mbB, I.D.p i, none⟩ = some (.int .i64 (I.D.b i))) (by kernel_rfl) hmb (fun hS0 => ?_)
  refine wpAnyH_take (i := 0) (v := (.slice (some ⟨B.ms, 0, none⟩) I.D.nt I.D.nt)) rfl (by kernel_rfl) (by kernel_rfl) (by kernel_rfl) (fun _ _ _ h => h) (y_run rfl fun w' hw' => r_move (.tmp 19) rfl E19) hS0 ?_
  refine wpAnyH_take (i := 1) (v := (.int .i64 t)) rfl (by kernel_rfl) (by kernel_rfl) (by kernel_rfl) (fun _ _ _ h => h) (y_run rfl fun w' hw' => r_move (.tmp 42) rfl (by (iterate 1 (refine Eq.trans (ev_ne (by decide)) ?_)); exact E42)) hS0 ?_
  refine wpAnyH_take (i := 2) (v := (.pointer (some ⟨B.ms, t, none⟩))) rfl (by kernel_rfl) (by kernel_rfl) (by kernel_rfl) (fun _ _ _ h => h) (y_run rfl fun w' hw' => r_idx33 (n := I.D.nt) (c := I.D.nt) (.tmp 489) (.tmp 490) rfl htn (by (iterate 1 (refine Eq.trans (ev_ne (by decide)) ?_)); exact ev_same (by (repeat rw [put_size]); rw [hsz]; decide)) (by exact ev_same (by (repeat rw [put_size]); rw [hsz]; decide))) hS0 ?_
  refine wpAnyH_take (i := 3) (v := (.slice (some ⟨B.mf, 0, none⟩) I.D.nt I.D.nt)) rfl (by kernel_rfl) (by kernel_rfl) (by kernel_rfl) (fun _ _ _ h => h) (y_run rfl fun w' hw' => r_move (.tmp 20) rfl (by (iterate 3 (refine Eq.trans (ev_ne (by decide)) ?_)); exact E20)) hS0 ?_
  refine wpAnyH_take (i := 4) (v := (.int .i64 t)) rfl (by kernel_rfl) (by kernel_rfl) (by kernel_rfl) (fun _ _ _ h => h) (y_run rfl fun w' hw' => r_move (.tmp 42) rfl (by (iterate 4 (refine Eq.trans (ev_ne (by decide)) ?_)); exact E42)) hS0 ?_
  refine wpAnyH_take (i := 5) (v := (.pointer (some ⟨B.mf, t, none⟩))) rfl (by kernel_rfl) (by kernel_rfl) (by kernel_rfl) (fun _ _ _ h => h) (y_run rfl fun w' hw' => r_idx33 (n := I.D.nt) (c := I.D.nt) (.tmp 492) (.tmp 493) rfl htn (by (iterate 1 (refine Eq.trans (ev_ne (by decide)) ?_)); exact ev_same (by (repeat rw [put_size]); rw [hsz]; decide)) (by exact ev_same (by (repeat rw [put_size]); rw [hsz]; decide))) hS0 ?_
  refine wpAnyH_take (i := 6) (v := (.slice (some ⟨mbB, 0, none⟩) I.D.np I.D.np)) rfl (by kernel_rfl) (by kernel_rfl) (by kernel_rfl) (fun _ _ _ h => h) (y_run rfl fun w' hw' => r_move (.tmp 12) rfl (by (iterate 6 (refine Eq.trans (ev_ne (by decide)) ?_)); exact E12)) hS0 ?_
  refine wpAnyH_take (i := 7) (v := (.int .i64 (I.D.p i))) rfl (by kernel_rfl) (by kernel_rfl) (by kernel_rfl) (fun _ _ _ h => h) (y_run rfl fun w' hw' => r_move (.tmp 34) rfl (by (iterate 7 (refine Eq.trans (ev_ne (by decide)) ?_)); exact E34)) hS0 ?_
  refine wpAnyH_take (i := 8) (v := (.pointer (some ⟨mbB, I.D.p i, none⟩))) rfl (by kernel_rfl) (by kernel_rfl) (by kernel_rfl) (fun _ _ _ h => h) (y_run rfl fun w' hw' => r_idx33 (n := I.D.np) (c := I.D.np) (.tmp 495) (.tmp 496) rfl hpn (by (iterate 1 (refine Eq.trans (ev_ne (by decide)) ?_)); exact ev_same (by (repeat rw [put_size]); rw [hsz]; decide)) (by exact ev_same (by (repeat rw [put_size]); rw [hsz]; decide))) hS0 ?_
  refine wpAnyH_take (i := 9) (v := (.int .i64 (I.D.b i))) rfl (by kernel_rfl) (by kernel_rfl) (by kernel_rfl) (fun _ _ _ h => h) (y_run rfl fun w' hw' => r_loadB 3 (by simp) (.tmp 497) rfl (by exact ev_same (by (repeat rw [put_size]); rw [hsz]; decide)) hw') hS0 ?_
  refine wpAnyH_ready (rs := [10]) (by kernel_rfl) (by simp) ?_
  refine AllReadyH.cons rfl (fun K hK => ?_) AllReadyH.nil
  refine wp_call rfl (r_call7 (.tmp 491) (.tmp 494) (.tmp 498) rfl rfl (by (iterate 7 (refine Eq.trans (ev_ne (by decide)) ?_)); exact ev_same (by (repeat rw [put_size]); rw [hsz]; decide)) (by (iterate 4 (refine Eq.trans (ev_ne (by decide)) ?_)); exact ev_same (by (repeat rw [put_size]); rw [hsz]; decide)) (by exact ev_same (by (repeat rw [put_size]); rw [hsz]; decide))) (anew_any w.drew B.ms B.mf t t (σ t).s (σ t).f (I.D.b i) c0 z0 c1 z1 hne) ?_
  rintro e V ⟨rfl, hV⟩
  refine ⟨_, rfl, ?_⟩
  have hSV : V.cell? ⟨mbB, I.D.p i, none⟩ = some (.int .i64 (I.D.b i)) ∧ ∃ s f, (∀ u, u ≠ t → s u = (σ u).s ∧ f u = (σ u).f) ∧ s t = wrap64 ((σ t).s + 1) ∧ f t = newF (σ t).f (I.D.b i) ∧ Touch (InG lab 3) w V ∧ Mod lab V w0.heap.size I.D.nt B ks vs s f (fun t => (σ t).kv) (fun t => (σ t).kv) := by
    have hMd : Mod lab w.drew w0.heap.size I.D.nt B ks vs (fun t => (σ t).s) (fun t => (σ t).f) (fun t => (σ t).kv) (fun t => (σ t).kv) := hM.rs.mod.grow (K := fun _ => True) (Grow.of_same (Same.none hM.rs.labs (Touch.refl _ _).drew _)) trivial
    have hT0 : Touch (InG lab 3) w (w.drew.setCell ⟨B.ms, t, none⟩ (.int .i64 (wrap64 ((σ t).s + 1)))) := (Touch.refl _ _).drew.setCell (.inl ⟨_, hM.rs.mod.t0, rfl⟩) _
    by_cases hc : I.D.b i ≤ 320 ∧ (σ t).f < 8
    · rw [if_pos hc] at hV
      rw [hV]
      refine ⟨?_, _, _, fun u hu => ⟨upd_other _ _ hu, upd_other _ _ hu⟩, upd_same _ _ _, ?_, hT0.setCell (.inl ⟨_, hM.rs.mod.t1, rfl⟩) _, (hMd.setS t _).setF t _⟩
      · rw [← hmb]
        exact (World.cell?_of_block (a := ⟨mbB, I.D.p i, none⟩) (Go.Deep.blk_setCell_other _ _ _ _ hnm1)).trans (World.cell?_of_block (a := ⟨mbB, I.D.p i, none⟩) (Go.Deep.blk_setCell_other _ _ _ _ hnm0))
      · rw [upd_same]
        unfold newF
        rw [if_pos hc]
    · rw [if_neg hc] at hV
      rw [hV]
      refine ⟨?_, _, _, fun u hu => ⟨upd_other _ _ hu, rfl⟩, upd_same _ _ _, ?_, hT0, hMd.setS t _⟩
      · rw [← hmb]
        exact World.cell?_of_block (a := ⟨mbB, I.D.p i, none⟩) (Go.Deep.blk_setCell_other _ _ _ _ hnm0)
      · unfold newF
        rw [if_neg hc]
  obtain ⟨hS1, s, f, hsf, hst, hft, hT, hMV⟩ := hSV
  refine hK.out _ _ hS1 (fun _ => ?_)
  clear hK K
  refine wpAnyH_take (i := 11) (v := (.int .i64 (newB (σ t).f (I.D.b i)))) rfl (by kernel_rfl) (by kernel_rfl) (by kernel_rfl) (fun _ _ _ h => h) (y_run rfl fun w' hw' => r_assign (.tmp 499) rfl (by exact ev_same (by (repeat rw [put_size]); rw [hsz]; decide))) hS1 ?_
  refine wpAnyH_done (by kernel_rfl) ?_ _
  have hFr : Free lab lab w V := Free.touch hT fun b ⟨y, hy, _⟩ => by rw [hy]; simp
  have hM2 := hM.mod3 hFr hT.size (hM.rs.labs.touchG hT) (Grow.of_same (Same.group hM.rs.labs hT)) hMV
  show Code.wp Yba.prog _ Q _ _
  refine p99 I w0 psB mbB tsB rsB B i inB ra j t kB htn k σ hF wt rqv wtv lab A ks vs V hra (hTk.free hFr hT.size) s f hsf (newB (σ t).f (I.D.b i)) σ' (by rw [hst, hft]; exact hσ) hM2 _ ?_ ?_ ?_ ?_ ?_ ?_ ?_ Q hQ
  · refine hL.of ?_ ?_ fun q hq => ?_
    · (repeat rw [put_size]); exact hsz
    · (repeat rw [put_defers]); exact hL.defers
    · (iterate 12 (refine Eq.trans (put_get (by omega)) ?_))
      rfl
  · (iterate 12 (refine Eq.trans (put_get (by decide)) ?_)); exact e40
  · (iterate 12 (refine Eq.trans (put_get (by decide)) ?_)); exact e42
  · (iterate 12 (refine Eq.trans (put_get (by decide)) ?_)); exact e44
  · (iterate 12 (refine Eq.trans (put_get (by decide)) ?_)); exact e45
  · (iterate 12 (refine Eq.trans (put_get (by decide)) ?_)); exact e46
  · exact put_self (by (repeat rw [put_size]); rw [hsz]; decide)
end Go.Proofs.Ybulkeyzg
