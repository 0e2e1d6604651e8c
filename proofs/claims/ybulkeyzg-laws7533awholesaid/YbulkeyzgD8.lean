import Derived.Test.YbulkeyzgD7
namespace Go.Proofs.Ybulkeyzg
open Go.RowKit

section
variable {ρ : Operand → Value} {o : Oper} {w : World}
theorem r_b57 (x y z : Operand) (ho : o.op = .build 57 #[(0, x), (1, y), (2, z)]) {p m q : Nat} (h : ρ x = .int .i64 p) (h' : ρ y = .int .u8 m) (h2 : ρ z = .int .u8 q) : (execOp ρ o).run Yba.prog w = .ok (.value (.agg #[.int .i64 p, .int .u8 m, .int .u8 q])) w := by
  have u3 := Yba.underlying57
  unfold execOp; rw [ho]; simp only; go_simp
theorem r_al57 (ho : o.op = .alloc 57) : (execOp ρ o).run Yba.prog w = .ok (.value (ptr w.heap.size)) (w.alloc (.cells #[.int .i64 0, .int .u8 0, .int .u8 0] 57)) := by
  unfold ptr
  have u3 := Yba.underlying57
  unfold execOp; rw [ho]; simp only; go_simp
theorem r_st57 (x y : Operand) (ho : o.op = .store 57 x y) {p m q : Nat} (h : ρ x = ptr w.heap.size) (h' : ρ y = .agg #[.int .i64 p, .int .u8 m, .int .u8 q]) : (execOp ρ o).run Yba.prog (w.alloc (.cells #[.int .i64 0, .int .u8 0, .int .u8 0] 57)) = .ok .skip (w.alloc (.cells #[.int .i64 p, .int .u8 m, .int .u8 q] 57)) := by
  unfold ptr at h
  have u3 := Yba.underlying57
  unfold execOp; rw [ho]; simp only; go_simp
end

set_option maxRecDepth 100000 in
set_option maxHeartbeats 1000000 in
/-- regions 92 to 104 -/
theorem p92 (I : Inp) (w0 : World) (psB mbB tsB rsB : Nat) (B : MB) (i inB ra j t hB m kd : Nat) (tb : Value) (kb : Value) (htn : t < I.D.nt) (σ : Nat → TS) (hF : Few 100000 σ) (wt : List Int) (rqv wtv : Value) (hkey : I.D.key i j = (I.D.p i, m % 3, kd))
    (lab : Lab) (A : Adr) (ks vs : Nat → Value) (w : World) (hra : A.ra i = ra) (hTh : Tmp lab w hB [tb, .int .u8 m, kb]) (hM : MS I w0 lab w A psB mbB tsB rsB B ks vs i inB (fun t => (σ t).s) (fun t => (σ t).f) (fun t => (σ t).kv) (fun t => (σ t).kv) wt rqv wtv)
    (a : Act) (hL : LvR I psB mbB tsB rsB B i inB ra rqv wtv a) (e40 : a.tmps[40]? = some (.int .i64 j)) (e41 : a.tmps[41]? = some (ptr hB)) (e42 : a.tmps[42]? = some (.int .i64 t)) (e43 : a.tmps[43]? = some (.int .u8 kd)) (Q : Exit → Act → World → Prop) (hQ : ∀ a w, F16 I w0 psB mbB tsB rsB B i inB ra j (upd σ t (keepT (σ t) (I.D.key i j) (I.R i).heap ((I.R i).nw == 0) (I.D.b i))) wt rqv wtv a w → Q .normal a w) (hQe : ∀ a w, F16 I w0 psB mbB tsB rsB B i inB ra j (upd σ t (keepT (σ t) (I.D.key i j) (I.R i).heap ((I.R i).nw == 0) (I.D.b i))) wt rqv wtv a w → Q (.exit 17) a w) :
    Code.wp Yba.prog (nav [1, 1, 1, 1, 1, 1, 1, 1, 1, 1, 1, 1, 1, 1, 1, 1, 1, 1, 1, 1, 1, 0, 1, 0, 0, 1, 0, 0, 1, 1, 1, 1, 1, 1, 1, 0, 1, 0, 0, 1, 0, 0, 1, 1, 1, 1, 1] (Yba.f3.body.getD .skip)) Q a w := by
  have hsz := hL.size
  have E34 := ev_of hL.s34
  have E41 := ev_of e41
  have E43 := ev_of e43
  unfold ptr at E41
  have h1 := hTh.cell 1 _ rfl
  conv => arg 2; whnf
  refine wp_seq ?_
  refine wp_region_lit ?_
  refine l_val 458 rfl rfl (r_move (.tmp 34) rfl E34) ?_
  refine l_val 459 rfl rfl (r_f74 (b := hB) 1 (by omega) (.tmp 41) rfl (by (iterate 1 (refine Eq.trans (ev_ne (by decide)) ?_)); exact E41)) ?_
  refine l_val 460 rfl rfl (r_load 5 (by simp) (.tmp 459) rfl (by exact ev_same (by (repeat rw [put_size]); rw [hsz]; decide)) h1) ?_
  refine l_val 461 rfl rfl (r_rem5 (n := m) (.tmp 460) 3 (by simp) rfl (by exact ev_same (by (repeat rw [put_size]); rw [hsz]; decide)) rfl) ?_
  refine l_val 462 rfl rfl (r_move (v := .int .u8 kd) (.tmp 43) rfl (by (iterate 4 (refine Eq.trans (ev_ne (by decide)) ?_)); exact E43)) ?_
  refine l_val 463 rfl rfl (r_b57 (p := I.D.p i) (m := m % 3) (q := kd) (.tmp 458) (.tmp 461) (.tmp 462) rfl (by (iterate 4 (refine Eq.trans (ev_ne (by decide)) ?_)); exact ev_same (by (repeat rw [put_size]); rw [hsz]; decide)) (by (iterate 1 (refine Eq.trans (ev_ne (by decide)) ?_)); exact ev_same (by (repeat rw [put_size]); rw [hsz]; decide)) (by exact ev_same (by (repeat rw [put_size]); rw [hsz]; decide))) ?_
  refine l_val 44 rfl rfl (r_al57 rfl) ?_
  refine l_store rfl rfl (r_st57 (w := w) (p := I.D.p i) (m := m % 3) (q := kd) (.tmp 44) (.tmp 463) rfl (by exact ev_same (by (repeat rw [put_size]); rw [hsz]; decide)) (by (iterate 1 (refine Eq.trans (ev_ne (by decide)) ?_)); exact ev_same (by (repeat rw [put_size]); rw [hsz]; decide))) ?_
  refine wpList_nil ?_
  have hT : Touch (fun _ => False) w (w.alloc (.cells #[.int .i64 (I.D.p i), .int .u8 (m % 3 : Nat), .int .u8 kd] 57)) := (Touch.refl _ _).alloc _
  have hTk : Tmp lab (w.alloc (.cells #[.int .i64 (I.D.p i), .int .u8 (m % 3 : Nat), .int .u8 kd] 57)) w.heap.size (keyC (I.D.key i j)) := by
    rw [hkey]
    exact Tmp.new hM.rs.labs _ _
  show Code.wp Yba.prog _ Q _ _
  refine p93 I w0 psB mbB tsB rsB B i inB ra j t w.heap.size htn (I.D.key i j) σ hF wt rqv wtv lab A ks vs _ hra hTk (hM.touch0 hT) _ ?_ ?_ ?_ ?_ Q hQ hQe
  · refine hL.of ?_ ?_ fun q hq => ?_
    · (repeat rw [put_size]); exact hsz
    · (repeat rw [put_defers]); exact hL.defers
    · (iterate 7 (refine Eq.trans (put_get (by omega)) ?_))
      rfl
  · (iterate 7 (refine Eq.trans (put_get (by decide)) ?_)); exact e40
  · (iterate 7 (refine Eq.trans (put_get (by decide)) ?_)); exact e42
  · exact put_self (by (repeat rw [put_size]); rw [hsz]; decide)

def P92 (I : Inp) (w0 : World) (psB mbB tsB rsB : Nat) (B : MB) (i inB ra j t : Nat) (σ : Nat → TS) (wt : List Int) (rqv wtv : Value) (a : Act) (w : World) : Prop :=
  ∃ (lab : Lab) (A : Adr) (ks vs : Nat → Value) (hB m kd : Nat) (tb kb : Value), I.D.key i j = (I.D.p i, m % 3, kd) ∧ A.ra i = ra ∧ Tmp lab w hB [tb, .int .u8 m, kb] ∧ MS I w0 lab w A psB mbB tsB rsB B ks vs i inB (fun t => (σ t).s) (fun t => (σ t).f) (fun t => (σ t).kv) (fun t => (σ t).kv) wt rqv wtv ∧
    LvR I psB mbB tsB rsB B i inB ra rqv wtv a ∧ a.tmps[40]? = some (.int .i64 j) ∧ a.tmps[41]? = some (ptr hB) ∧ a.tmps[42]? = some (.int .i64 t) ∧ a.tmps[43]? = some (.int .u8 kd)
end Go.Proofs.Ybulkeyzg
