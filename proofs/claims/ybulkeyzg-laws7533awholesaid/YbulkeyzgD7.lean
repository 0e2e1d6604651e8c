import Derived.Test.YbulkeyzgD6
namespace Go.Proofs.Ybulkeyzg
open Go.RowKit

theorem r_call6 {ρ : Operand → Value} {o : Oper} {w : World} (x y : Operand) (ho : o.op = .call { callee := .value (.func 6), args := #[x, y], argTypes := #[65, 57] }) (hf : ρ (.func 6) = .func (.func 6) #[] #[]) {a b : Value} (h1 : ρ x = a) (h2 : ρ y = b) : (execOp ρ o).run Yba.prog w = .ok (.enter 6 #[a, b]) w := by
  unfold execOp; rw [ho]; simp only; go_simp

set_option maxRecDepth 100000 in
set_option maxHeartbeats 1000000 in
/-- regions 93 to 104 -/
theorem p93 (I : Inp) (w0 : World) (psB mbB tsB rsB : Nat) (B : MB) (i inB ra j t kB : Nat) (htn : t < I.D.nt) (k : Key) (σ : Nat → TS) (hF : Few 100000 σ) (wt : List Int) (rqv wtv : Value)
    (lab : Lab) (A : Adr) (ks vs : Nat → Value) (w : World) (hra : A.ra i = ra) (hTk : Tmp lab w kB (keyC k)) (hM : MS I w0 lab w A psB mbB tsB rsB B ks vs i inB (fun t => (σ t).s) (fun t => (σ t).f) (fun t => (σ t).kv) (fun t => (σ t).kv) wt rqv wtv)
    (a : Act) (hL : LvR I psB mbB tsB rsB B i inB ra rqv wtv a) (e40 : a.tmps[40]? = some (.int .i64 j)) (e42 : a.tmps[42]? = some (.int .i64 t)) (e44 : a.tmps[44]? = some (ptr kB)) (Q : Exit → Act → World → Prop) (hQ : ∀ a w, F16 I w0 psB mbB tsB rsB B i inB ra j (upd σ t (keepT (σ t) k (I.R i).heap ((I.R i).nw == 0) (I.D.b i))) wt rqv wtv a w → Q .normal a w) (hQe : ∀ a w, F16 I w0 psB mbB tsB rsB B i inB ra j (upd σ t (keepT (σ t) k (I.R i).heap ((I.R i).nw == 0) (I.D.b i))) wt rqv wtv a w → Q (.exit 17) a w) :
    Code.wp Yba.prog (nav [1, 1, 1, 1, 1, 1, 1, 1, 1, 1, 1, 1, 1, 1, 1, 1, 1, 1, 1, 1, 1, 0, 1, 0, 0, 1, 0, 0, 1, 1, 1, 1, 1, 1, 1, 0, 1, 0, 0, 1, 0, 0, 1, 1, 1, 1, 1, 1] (Yba.f3.body.getD .skip)) Q a w := by
  have hsz := hL.size
  have E21 := ev_of hL.s21
  have E42 := ev_of e42
  have E44 := ev_of e44
  obtain ⟨ka, kc, hks, hKA⟩ := (hM.rs.mod.keys t htn).keysAt
  have c0 := hM.rs.mod.r2.cell (i := t) htn
  rw [hks] at c0
  have hvl := hM.rs.mod.r2.lt
  have k0 := hTk.cell 0 _ rfl
  have k1 := hTk.cell 1 _ rfl
  have k2 := hTk.cell 2 _ rfl
  have hkl := hTk.lt
  have hl := hF t
  conv => arg 2; whnf
  refine wp_seq ?_
  refine wp_region_noPanic ?_
  have C : ∀ (V : World), (∀ q, q = B.kb ∨ q = kB → V.heap[q]? = w.heap[q]?) → V.cell? ⟨B.kb, t, none⟩ = some (.slice ka (σ t).kv.length kc) ∧ V.cell? ⟨kB, 0, none⟩ = some (.int .i64 k.1) ∧ V.cell? ⟨kB, 1, none⟩ = some (.int .u8 k.2.1) ∧ V.cell? ⟨kB, 2, none⟩ = some (.int .u8 k.2.2) := fun V hV =>
    ⟨(World.cell?_of_block (a := ⟨B.kb, t, none⟩) (hV _ (.inl rfl))).trans c0, (World.cell?_of_block (a := ⟨kB, 0, none⟩) (hV _ (.inr rfl))).trans k0, (World.cell?_of_block (a := ⟨kB, 1, none⟩) (hV _ (.inr rfl))).trans k1, (World.cell?_of_block (a := ⟨kB, 2, none⟩) (hV _ (.inr rfl))).trans k2⟩
  refine wp_region_held_drew (S := (fun w' => w'.cell? ⟨B.kb, t, none⟩ = some (.slice ka (σ t).kv.length kc) ∧ w'.cell? ⟨kB, 0, none⟩ = some (.int .i64 k.1) ∧ w'.cell? ⟨kB, 1, none⟩ = some (.int .u8 k.2.1) ∧ w'.cell? ⟨kB, 2, none⟩ = some (.int .u8 k.2.2))) (by kernel_rfl) (C w.drew fun _ _ => rfl) (fun hS0 => ?_)
  refine wpAnyH_take (i := 0) (v := (.slice (some ⟨B.kb, 0, none⟩) I.D.nt I.D.nt)) rfl (by kernel_rfl) (by kernel_rfl) (by kernel_rfl) (fun _ _ _ h => h) (y_run rfl fun w' hw' => r_move (.tmp 21) rfl E21) hS0 ?_
  refine wpAnyH_take (i := 1) (v := (.int .i64 t)) rfl (by kernel_rfl) (by kernel_rfl) (by kernel_rfl) (fun _ _ _ h => h) (y_run rfl fun w' hw' => r_move (.tmp 42) rfl (by (iterate 1 (refine Eq.trans (ev_ne (by decide)) ?_)); exact E42)) hS0 ?_
  refine wpAnyH_take (i := 2) (v := (.pointer (some ⟨B.kb, t, none⟩))) rfl (by kernel_rfl) (by kernel_rfl) (by kernel_rfl) (fun _ _ _ h => h) (y_run rfl fun w' hw' => r_idx43 (n := I.D.nt) (c := I.D.nt) (.tmp 464) (.tmp 465) rfl htn (by (iterate 1 (refine Eq.trans (ev_ne (by decide)) ?_)); exact ev_same (by (repeat rw [put_size]); rw [hsz]; decide)) (by exact ev_same (by (repeat rw [put_size]); rw [hsz]; decide))) hS0 ?_
  refine wpAnyH_take (i := 3) (v := (.slice ka (σ t).kv.length kc)) rfl (by kernel_rfl) (by kernel_rfl) (by kernel_rfl) (fun _ _ _ h => h) (y_run rfl fun w' hw' => r_loadB 65 (by simp) (.tmp 466) rfl (by exact ev_same (by (repeat rw [put_size]); rw [hsz]; decide)) hw'.1) hS0 ?_
  refine wpAnyH_take (i := 4) (v := (.agg #[.int .i64 k.1, .int .u8 k.2.1, .int .u8 k.2.2])) rfl (by kernel_rfl) (by kernel_rfl) (by kernel_rfl) (fun _ _ _ h => h) (y_run rfl fun w' hw' => r_load57 (.tmp 44) rfl (by (iterate 4 (refine Eq.trans (ev_ne (by decide)) ?_)); exact E44) hw'.2.1 hw'.2.2.1 hw'.2.2.2) hS0 ?_
  refine wpAnyH_ready (rs := [5]) (by kernel_rfl) (by simp) ?_
  refine AllReadyH.cons rfl (fun K hK => ?_) AllReadyH.nil
  refine wp_call rfl (r_call6 (.tmp 467) (.tmp 468) rfl rfl (by (iterate 1 (refine Eq.trans (ev_ne (by decide)) ?_)); exact ev_same (by (repeat rw [put_size]); rw [hsz]; decide)) (by exact ev_same (by (repeat rw [put_size]); rw [hsz]; decide))) (find_any w.drew ka kc (σ t).kv k hKA hl) ?_
  rintro e V ⟨rfl, hT0⟩
  refine ⟨_, rfl, ?_⟩
  have hT : Touch (fun _ => False) w V := ((Touch.refl _ _).drew).trans hT0
  have hS1 := C V (fun q hq => hT.block q (by rcases hq with rfl | rfl <;> assumption) id)
  refine hK.out _ _ hS1 (fun _ => ?_)
  clear hK K
  refine wpAnyH_take (i := 6) (v := (.int .i64 (ixV (idx k (σ t).kv)))) rfl (by kernel_rfl) (by kernel_rfl) (by kernel_rfl) (fun _ _ _ h => h) (y_run rfl fun w' hw' => r_assign (.tmp 469) rfl (by exact ev_same (by (repeat rw [put_size]); rw [hsz]; decide))) hS1 ?_
  refine wpAnyH_done (by kernel_rfl) ?_ _
  have hFr : Free lab lab w V := Free.touch hT fun _ h => h.elim
  show Code.wp Yba.prog _ Q _ _
  refine p94 I w0 psB mbB tsB rsB B i inB ra j t kB htn k σ hF wt rqv wtv lab A ks vs V hra (hTk.free hFr hT.size) (hM.touch0 hT) _ ?_ ?_ ?_ ?_ ?_ Q hQ hQe
  · refine hL.of ?_ ?_ fun q hq => ?_
    · (repeat rw [put_size]); exact hsz
    · (repeat rw [put_defers]); exact hL.defers
    · (iterate 7 (refine Eq.trans (put_get (by omega)) ?_))
      rfl
  · (iterate 7 (refine Eq.trans (put_get (by decide)) ?_)); exact e40
  · (iterate 7 (refine Eq.trans (put_get (by decide)) ?_)); exact e42
  · (iterate 7 (refine Eq.trans (put_get (by decide)) ?_)); exact e44
  · exact put_self (by (repeat rw [put_size]); rw [hsz]; decide)
end Go.Proofs.Ybulkeyzg
