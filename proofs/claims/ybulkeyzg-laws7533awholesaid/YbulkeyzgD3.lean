import Derived.Test.YbulkeyzgD2
namespace Go.Proofs.Ybulkeyzg
open Go.RowKit

set_option maxRecDepth 100000 in
set_option maxHeartbeats 1000000 in
/-- regions 102 and 103: the key and its number are appended -/
theorem p102 (I : Inp) (w0 : World) (psB mbB tsB rsB : Nat) (B : MB) (i inB ra j t : Nat) (htn : t < I.D.nt) (k : Key) (z : Int) (s f : Nat → Int) (σ : Nat → TS) (hF : Few 100000 σ) (wt : List Int) (rqv wtv : Value) (σ' : Nat → TS) (hσ : σ' = upd σ t ⟨s t, f t, put k z (σ t).kv⟩) (hsf : ∀ u, u ≠ t → s u = (σ u).s ∧ f u = (σ u).f)
    (lab : Lab) (A : Adr) (ks vs : Nat → Value) (w : World) (hra : A.ra i = ra) (kB : Nat) (hTk : Tmp lab w kB (keyC k)) (hM : MS I w0 lab w A psB mbB tsB rsB B ks vs i inB s f (fun t => (σ t).kv) (fun t => (σ t).kv) wt rqv wtv) (hq : idx k (σ t).kv = none)
    (a : Act) (hL : LvR I psB mbB tsB rsB B i inB ra rqv wtv a) (e40 : a.tmps[40]? = some (.int .i64 j)) (e42 : a.tmps[42]? = some (.int .i64 t)) (e44 : a.tmps[44]? = some (ptr kB)) (e47 : a.tmps[47]? = some (.int .i64 z)) (Q : Exit → Act → World → Prop) (hQ : ∀ a w, F16 I w0 psB mbB tsB rsB B i inB ra j σ' wt rqv wtv a w → Q .normal a w) :
    Code.wp Yba.prog (nav [1, 1, 1, 1, 1, 1, 1, 1, 1, 1, 1, 1, 1, 1, 1, 1, 1, 1, 1, 1, 1, 0, 1, 0, 0, 1, 0, 0, 1, 1, 1, 1, 1, 1, 1, 0, 1, 0, 0, 1, 0, 0, 1, 1, 1, 1, 1, 1, 1, 1, 1, 1, 1, 1, 1, 0] (Yba.f3.body.getD .skip)) Q a w := by
  have hsz := hL.size
  have E21 := ev_of hL.s21
  have E42 := ev_of e42
  have E44 := ev_of e44
  have hv := hM.rs.mod.keys t htn
  have c0 := hM.rs.mod.r2.cell (i := t) htn
  have z0 := hM.rs.mod.r2.frozen t
  have hvl := hM.rs.mod.r2.lt
  have hNs := hM.rs.labs.bel.size
  have hl := hF t
  have hno : some B.kb ≠ (ks t).ownBlock := fun e => by have := hv.2 _ e.symm; rw [hM.rs.mod.t2] at this; cases this
  have hno2 : some kB ≠ (ks t).ownBlock := fun e => by have := hv.2 _ e.symm; rw [hTk.tag] at this; cases this
  have k0 := hTk.cell 0 _ rfl
  have k1 := hTk.cell 1 _ rfl
  have k2 := hTk.cell 2 _ rfl
  have hkl := hTk.lt
  conv => arg 2; whnf
  refine wp_seq ?_
  refine wp_region_noPanic ?_
  refine wp_region_peel' (fun w' => w'.cell? ⟨B.kb, t, none⟩ = some (ks t) ∧ w'.cell? ⟨kB, 0, none⟩ = some (.int .i64 k.1) ∧ w'.cell? ⟨kB, 1, none⟩ = some (.int .u8 k.2.1) ∧ w'.cell? ⟨kB, 2, none⟩ = some (.int .u8 k.2.2)) (by simp) (by kernel_rfl) (by kernel_rfl) (by kernel_rfl) ?_
  have C : ∀ (V : World), (∀ q, q = B.kb ∨ q = kB → V.heap[q]? = w.heap[q]?) → V.cell? ⟨B.kb, t, none⟩ = some (ks t) ∧ V.cell? ⟨kB, 0, none⟩ = some (.int .i64 k.1) ∧ V.cell? ⟨kB, 1, none⟩ = some (.int .u8 k.2.1) ∧ V.cell? ⟨kB, 2, none⟩ = some (.int .u8 k.2.2) := fun V hV =>
    ⟨(World.cell?_of_block (a := ⟨B.kb, t, none⟩) (hV _ (.inl rfl))).trans c0, (World.cell?_of_block (a := ⟨kB, 0, none⟩) (hV _ (.inr rfl))).trans k0, (World.cell?_of_block (a := ⟨kB, 1, none⟩) (hV _ (.inr rfl))).trans k1, (World.cell?_of_block (a := ⟨kB, 2, none⟩) (hV _ (.inr rfl))).trans k2⟩
  have hS0 := C w.drew (fun _ _ => rfl)
  refine wpAnyH_take (i := 0) (v := (.slice (some ⟨B.kb, 0, none⟩) I.D.nt I.D.nt)) rfl (by kernel_rfl) (by kernel_rfl) (by kernel_rfl) (fun _ _ _ h => h) (y_run rfl fun w' hw' => r_move (.tmp 21) rfl E21) hS0 ?_
  refine wpAnyH_take (i := 1) (v := (.int .i64 t)) rfl (by kernel_rfl) (by kernel_rfl) (by kernel_rfl) (fun _ _ _ h => h) (y_run rfl fun w' hw' => r_move (.tmp 42) rfl (by (iterate 1 (refine Eq.trans (ev_ne (by decide)) ?_)); exact E42)) hS0 ?_
  refine wpAnyH_take (i := 2) (v := (.slice (some ⟨B.kb, 0, none⟩) I.D.nt I.D.nt)) rfl (by kernel_rfl) (by kernel_rfl) (by kernel_rfl) (fun _ _ _ h => h) (y_run rfl fun w' hw' => r_move (.tmp 21) rfl (by (iterate 2 (refine Eq.trans (ev_ne (by decide)) ?_)); exact E21)) hS0 ?_
  refine wpAnyH_take (i := 3) (v := (.int .i64 t)) rfl (by kernel_rfl) (by kernel_rfl) (by kernel_rfl) (fun _ _ _ h => h) (y_run rfl fun w' hw' => r_move (.tmp 42) rfl (by (iterate 3 (refine Eq.trans (ev_ne (by decide)) ?_)); exact E42)) hS0 ?_
  refine wpAnyH_take (i := 4) (v := (.pointer (some ⟨B.kb, t, none⟩))) rfl (by kernel_rfl) (by kernel_rfl) (by kernel_rfl) (fun _ _ _ h => h) (y_run rfl fun w' hw' => r_idx43 (n := I.D.nt) (c := I.D.nt) (.tmp 508) (.tmp 509) rfl htn (by (iterate 1 (refine Eq.trans (ev_ne (by decide)) ?_)); exact ev_same (by (repeat rw [put_size]); rw [hsz]; decide)) (by exact ev_same (by (repeat rw [put_size]); rw [hsz]; decide))) hS0 ?_
  refine wpAnyH_take (i := 5) (v := (ks t)) rfl (by kernel_rfl) (by kernel_rfl) (by kernel_rfl) (fun _ _ _ h => h) (y_run rfl fun w' hw' => r_loadB 65 (by simp) (.tmp 510) rfl (by exact ev_same (by (repeat rw [put_size]); rw [hsz]; decide)) hw'.1) hS0 ?_
  refine wpAnyH_take (i := 6) (v := (.agg #[.int .i64 k.1, .int .u8 k.2.1, .int .u8 k.2.2])) rfl (by kernel_rfl) (by kernel_rfl) (by kernel_rfl) (fun _ _ _ h => h) (y_run rfl fun w' hw' => r_load57 (.tmp 44) rfl (by (iterate 6 (refine Eq.trans (ev_ne (by decide)) ?_)); exact E44) hw'.2.1 hw'.2.2.1 hw'.2.2.2) hS0 ?_
  have b1 : ∀ q, q < w.heap.size → (w.drew.alloc (.cells #[.int .i64 k.1, .int .u8 k.2.1, .int .u8 k.2.2] 57)).heap[q]? = w.heap[q]? := fun q hq => Go.Deep.blk_alloc_lt w.drew _ _ hq
  have s1 : (w.drew.alloc (.cells #[.int .i64 k.1, .int .u8 k.2.1, .int .u8 k.2.2] 57)).heap.size = w.heap.size + 1 := by show (w.heap.push _).size = _; simp
  have hS1 := C (w.drew.alloc (.cells #[.int .i64 k.1, .int .u8 k.2.1, .int .u8 k.2.2] 57)) (fun q hq => b1 q (by rcases hq with rfl | rfl <;> assumption))
  refine wpAnyH_ready (rs := [7]) (by kernel_rfl) (by simp) ?_
  refine AllReadyH.cons rfl (fun K hK => ?_) AllReadyH.nil
  refine wp_val rfl (r_bsl65 (.tmp 512) rfl (by exact ev_same (by (repeat rw [put_size]); rw [hsz]; decide))) ?_
  refine hK.out _ _ hS1 (fun _ => ?_)
  clear hK K
  refine wpAnyH_ready (rs := [8]) (by kernel_rfl) (by simp) ?_
  refine AllReadyH.cons rfl (fun K hK => ?_) AllReadyH.nil
  refine step_appK 511 513 rfl rfl _ w0.heap.size (ks t) _ k w.heap.size (hv.1.drew.alloc _) hl (by rw [s1]; omega) (Go.Deep.blk_alloc_new w.drew _) (by (iterate 2 (refine Eq.trans (ev_ne (by decide)) ?_)); exact ev_same (by (repeat rw [put_size]); rw [hsz]; decide)) (by exact ev_same (by (repeat rw [put_size]); rw [hsz]; decide)) ?_
  intro g cap w2 hown hgr hat hgl
  have b3 : ∀ q, q = B.kb ∨ q = kB → w2.heap[q]? = w.heap[q]? := fun q hq => by
    rcases hq with rfl | rfl
    · exact (hgr.block _ (by rw [s1]; omega) hno).trans (b1 _ hvl)
    · exact (hgr.block _ (by rw [s1]; omega) hno2).trans (b1 _ hkl)
  have hS3 := C w2 b3
  refine hK.out _ _ hS3 (fun _ => ?_)
  clear hK K
  refine wpAnyH_take (i := 9) (v := (.pointer (some ⟨B.kb, t, none⟩))) rfl (by kernel_rfl) (by kernel_rfl) (by kernel_rfl) (fun _ _ _ h => h) (y_run rfl fun w' hw' => r_idx43 (n := I.D.nt) (c := I.D.nt) (.tmp 506) (.tmp 507) rfl htn (by (iterate 8 (refine Eq.trans (ev_ne (by decide)) ?_)); exact ev_same (by (repeat rw [put_size]); rw [hsz]; decide)) (by (iterate 7 (refine Eq.trans (ev_ne (by decide)) ?_)); exact ev_same (by (repeat rw [put_size]); rw [hsz]; decide))) hS3 ?_
  refine wpAnyH_done (by kernel_rfl) ?_ _
  show Oper.wp _ _ _ _ _ _
  unfold Oper.wp
  rw [r_storeB 65 (by simp) (.tmp 515) (.tmp 514) rfl (by exact ev_same (by (repeat rw [put_size]); rw [hsz]; decide)) (by (iterate 1 (refine Eq.trans (ev_ne (by decide)) ?_)); exact ev_same (by (repeat rw [put_size]); rw [hsz]; decide)) hS3.1 ((World.frozen?_of_block (a := ⟨B.kb, t, none⟩) (b3 _ (.inl rfl))).trans z0)]
  have hTo : Touch (fun _ => False) w (w.drew.alloc (.cells #[.int .i64 k.1, .int .u8 k.2.1, .int .u8 k.2.2] 57)) := (Touch.refl _ _).drew.alloc _
  obtain ⟨lab', a0, a1, a2, a3⟩ := hM.rs.mod.appK hM.rs.labs htn (k, z) hTo hgr hown hat hgl rfl
  have hM2 := hM.mod3 a0 (by rw [setCell_size]; have := hgr.size; have := hTo.size; omega) a1 a2 a3
  show Code.wp Yba.prog _ Q _ _
  refine p103 I w0 psB mbB tsB rsB B i inB ra j t htn k z s f σ hF wt rqv wtv σ' hσ hsf lab' A _ vs _ hra hM2 hq _ ?_ ?_ ?_ ?_ Q hQ
  · refine hL.of ?_ ?_ fun q hq => ?_
    · (repeat rw [put_size]); exact hsz
    · (repeat rw [put_defers]); exact hL.defers
    · refine Eq.trans (put_none' rfl) ?_
      (iterate 10 (refine Eq.trans (put_get (by omega)) ?_))
      rfl
  · refine Eq.trans (put_none' rfl) ?_
    (iterate 10 (refine Eq.trans (put_get (by decide)) ?_))
    exact e40
  · refine Eq.trans (put_none' rfl) ?_
    (iterate 10 (refine Eq.trans (put_get (by decide)) ?_))
    exact e42
  · refine Eq.trans (put_none' rfl) ?_
    (iterate 10 (refine Eq.trans (put_get (by decide)) ?_))
    exact e47
end Go.Proofs.Ybulkeyzg
