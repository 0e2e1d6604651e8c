import Derived.Test.YbulkeyzgC6
namespace Go.Proofs.Ybulkeyzg
open Go.RowKit

theorem put_self {a : Act} {d : Nat} {v : Value} (h : d < a.tmps.size) : (a.put (some d) v).tmps[d]? = some v := by simp [Act.put, h]
section
variable {I : Inp} {psB mbB tsB rsB : Nat} {B : MB} {i inB ra : Nat} {rqv wtv : Value} {a : Act}
theorem LvR.put (h : LvR I psB mbB tsB rsB B i inB ra rqv wtv a) {d : Nat} (hd : 35 < d) (v : Value) : LvR I psB mbB tsB rsB B i inB ra rqv wtv (a.put (some d) v) :=
  ⟨⟨⟨⟨by rw [put_size]; exact h.size, by rw [put_defers]; exact h.defers, (put_get (by omega)).trans h.s0, (put_get (by omega)).trans h.s1, (put_get (by omega)).trans h.s2⟩, (put_get (by omega)).trans h.s10, (put_get (by omega)).trans h.s11, (put_get (by omega)).trans h.s12⟩, (put_get (by omega)).trans h.s17, (put_get (by omega)).trans h.s18, (put_get (by omega)).trans h.s19, (put_get (by omega)).trans h.s20, (put_get (by omega)).trans h.s21, (put_get (by omega)).trans h.s22⟩, (put_get (by omega)).trans h.s29, (put_get (by omega)).trans h.s30, (put_get (by omega)).trans h.s31, (put_get (by omega)).trans h.s32, (put_get (by omega)).trans h.s33, (put_get (by omega)).trans h.s34, (put_get (by omega)).trans h.s35⟩
theorem LvR.put30 (h : LvR I psB mbB tsB rsB B i inB ra rqv wtv a) (v : Value) : LvR I psB mbB tsB rsB B i inB ra v wtv (a.put (some 30) v) :=
  ⟨⟨⟨⟨by rw [put_size]; exact h.size, by rw [put_defers]; exact h.defers, (put_get (by omega)).trans h.s0, (put_get (by omega)).trans h.s1, (put_get (by omega)).trans h.s2⟩, (put_get (by omega)).trans h.s10, (put_get (by omega)).trans h.s11, (put_get (by omega)).trans h.s12⟩, (put_get (by omega)).trans h.s17, (put_get (by omega)).trans h.s18, (put_get (by omega)).trans h.s19, (put_get (by omega)).trans h.s20, (put_get (by omega)).trans h.s21, (put_get (by omega)).trans h.s22⟩, (put_get (by omega)).trans h.s29, put_self (by rw [h.size]; omega), (put_get (by omega)).trans h.s31, (put_get (by omega)).trans h.s32, (put_get (by omega)).trans h.s33, (put_get (by omega)).trans h.s34, (put_get (by omega)).trans h.s35⟩
theorem LvR.put31 (h : LvR I psB mbB tsB rsB B i inB ra rqv wtv a) (v : Value) : LvR I psB mbB tsB rsB B i inB ra rqv v (a.put (some 31) v) :=
  ⟨⟨⟨⟨by rw [put_size]; exact h.size, by rw [put_defers]; exact h.defers, (put_get (by omega)).trans h.s0, (put_get (by omega)).trans h.s1, (put_get (by omega)).trans h.s2⟩, (put_get (by omega)).trans h.s10, (put_get (by omega)).trans h.s11, (put_get (by omega)).trans h.s12⟩, (put_get (by omega)).trans h.s17, (put_get (by omega)).trans h.s18, (put_get (by omega)).trans h.s19, (put_get (by omega)).trans h.s20, (put_get (by omega)).trans h.s21, (put_get (by omega)).trans h.s22⟩, (put_get (by omega)).trans h.s29, (put_get (by omega)).trans h.s30, put_self (by rw [h.size]; omega), (put_get (by omega)).trans h.s32, (put_get (by omega)).trans h.s33, (put_get (by omega)).trans h.s34, (put_get (by omega)).trans h.s35⟩
end

section
variable {ρ : Operand → Value} {o : Oper} {w : World}
theorem r_assign (x : Operand) (ho : o.op = .assign x) {v : Value} (h : ρ x = v) : (execOp ρ o).run Yba.prog w = .ok (.value v) w := by
  unfold execOp; rw [ho]; simp [h]
theorem r_f72' (x : Operand) (ho : o.op = .fieldAddr 72 x 10) {b : Nat} (h : ρ x = .pointer (some ⟨b, 0, none⟩)) : (execOp ρ o).run Yba.prog w = .ok (.value (.pointer (some ⟨b, 10, none⟩))) w := by
  unfold execOp; rw [ho]; simp only; have u := Yba.underlying72; go_simp
theorem r_load67 (x : Operand) (ho : o.op = .load 67 x) {b q : Nat} (h : ρ x = .pointer (some ⟨b, q, none⟩)) {v : Value} (hc : w.cell? ⟨b, q, none⟩ = some v) : (execOp ρ o).run Yba.prog w = .ok (.value v) w := by
  have u1 := Yba.underlying67
  unfold execOp; rw [ho]; simp only; go_simp
theorem r_bsl67 (x : Operand) (ho : o.op = .buildSlice 67 1 #[(0, x)]) {b : Nat} (h : ρ x = ptr b) : (execOp ρ o).run Yba.prog w = .ok (.value (.slice (some ⟨w.heap.size, 0, none⟩) 1 1)) (w.alloc (.cells #[ptr b] 78)) := by
  unfold ptr at *
  have u3 := Yba.underlying67
  unfold execOp; rw [ho]; simp only; go_simp
theorem r_store67 (x y : Operand) (ho : o.op = .store 67 x y) {b q g n c : Nat} {v' : Value} (h : ρ x = .pointer (some ⟨b, q, none⟩)) (h' : ρ y = .slice (some ⟨g, 0, none⟩) n c) (hc : w.cell? ⟨b, q, none⟩ = some v') (hz : w.frozen? ⟨b, q, none⟩ = false) : (execOp ρ o).run Yba.prog w = .ok .skip (w.setCell ⟨b, q, none⟩ (.slice (some ⟨g, 0, none⟩) n c)) := by
  have u3 := Yba.underlying67
  unfold execOp; rw [ho]; simp only; go_simp
end
section
variable {P : Program} {ops : Array Oper} {rest : List Oper} {o : Oper} {a : Act} {w w' : World} {v : Value} {Q : Exit → Act → World → Prop}
theorem l_val (d : Nat) (hd : o.dst = some d) (hg : o.guard = none) (h : (execOp a.eval o).run P w = .ok (.value v) w') (hk : wpList P ops Q rest (a.put (some d) v) w') : wpList P ops Q (o :: rest) a w :=
  wpList_plain hg fun K hK => by
    unfold Oper.wp
    rw [h]
    have : K (a.put o.dst v) w' := hK _ _ (by rw [hd]; exact hk)
    exact this
theorem l_store (hd : o.dst = none) (hg : o.guard = none) (h : (execOp a.eval o).run P w = .ok .skip w') (hk : wpList P ops Q rest a w') : wpList P ops Q (o :: rest) a w :=
  wpList_plain hg fun K hK => by
    unfold Oper.wp
    rw [h]
    have : K (a.put o.dst undef) w' := hK _ _ (by rw [hd]; exact hk)
    exact this
end

/-- 'append(.., q)' in a region that draws nothing -/
theorem wpl_appQ {ops : Array Oper} {rest : List Oper} {o : Oper} {a : Act} {Q : Exit → Act → World → Prop} (s x d : Nat) (hd : o.dst = some d) (hgd : o.guard = none) (ho : o.op = .call { callee := .builtin .append, args := #[.tmp s, .tmp x], argTypes := #[67, 67] }) (w : World) (base : Nat) (v : Value) (n : Nat) (xs : List Value) (z : Nat) (B : Nat)
    (hown : w.ownsRow base 78 1 v n xs) (hl : n ≤ 100000) (hbase : base ≤ w.heap.size) (hB : w.heap[B]? = some (.cells #[ptr z] 78)) (hs : a.eval (.tmp s) = v) (hx : a.eval (.tmp x) = .slice (some ⟨B, 0, none⟩) 1 1)
    (h : ∀ g cap w', w'.ownsRow base 78 1 (.slice (some ⟨g, 0, none⟩) (n + 1) cap) (n + 1) (xs ++ [ptr z]) → w.grownBy w' v.ownBlock → (v.ownBlock = some g ∨ g = w.heap.size) → g < w'.heap.size → wpList Yba.prog ops Q rest (a.put (some d) (.slice (some ⟨g, 0, none⟩) (n + 1) cap)) w') :
    wpList Yba.prog ops Q (o :: rest) a w := by
  rw [← hd] at h
  obtain ⟨i, hi, hz, h1, h8⟩ := info78'
  exact wpList_append_lies (P := Yba.prog) w hgd (.tmp s) (.tmp x) 67 ho base 78 i _ 1 8 Yba.underlying67 hi hz h1 h8 rfl (by decide) v n _ hs hown ⟨B, 0, none⟩ 1 1 [ptr z] hx rfl (World.news_of_block hB) (by simp [Value.oneCell', ptr]) (by decide) (by unfold maxLen; omega) (by omega) hbase _ rfl h

set_option maxRecDepth 100000 in
set_option maxHeartbeats 1000000 in
theorem r81 (I : Inp) (w0 : World) (psB mbB tsB rsB : Nat) (B : MB) (i inB ra j qb : Nat) (σ : Nat → TS) (wt : List Int) (rqv wtv : Value) (hjn : j < (I.R i).nw) (hnw : (I.R i).nw ≤ 4096) (hoff : I.D.off i ≤ 4096) (lab : Lab) (A : Adr) (ks vs : Nat → Value) (w : World) (hra : A.ra i = ra) (hTin : Tmp lab w inB (inL I i)) (hqa : A.qa (I.D.off i + j) = qb)
    (hR : RS I w0 lab w A psB mbB tsB rsB B ks vs i (i + 1) (upd (NH I) i (I.R i).nh) (upd (NW I) i (j + 1)) (I.D.off i + j) (fun t => (σ t).s) (fun t => (σ t).f) (fun t => (σ t).kv) (fun t => (σ t).kv) wt rqv wtv)
    (a : Act) (hL : LvR I psB mbB tsB rsB B i inB ra rqv wtv a) (e38 : a.tmps[38]? = some (.int .i64 j)) (e39 : a.tmps[39]? = some (ptr qb)) (Q : Exit → Act → World → Prop)
    (hQ : ∀ a' w' rqv', LvR I psB mbB tsB rsB B i inB ra rqv' wtv a' → a'.tmps[38]? = some (.int .i64 j) → RSt I w0 w' psB mbB tsB rsB B i inB ra i (I.R i).nh (j + 1) σ wt rqv' wtv → Q .normal a' w') :
    Code.wp Yba.prog (nav [1, 1, 1, 1, 1, 1, 1, 1, 1, 1, 1, 1, 1, 1, 1, 1, 1, 1, 1, 1, 1, 0, 1, 0, 0, 1, 0, 0, 1, 1, 1, 1, 1, 0, 1, 0, 0, 1, 0, 0, 1, 1] (Yba.f3.body.getD .skip)) Q a w := by
  have hsz := hL.size
  have E30 := ev_of hL.s30
  have E39 := ev_of e39
  have hNs := hR.labs.bel.size
  conv => arg 2; whnf
  refine wp_region_lit ?_
  refine l_val 422 rfl rfl (r_move (.tmp 30) rfl E30) ?_
  refine l_val 423 rfl rfl (r_move (.tmp 39) rfl (Eq.trans (ev_ne (by decide)) E39)) ?_
  refine l_val 424 rfl rfl (r_bsl67 (b := qb) (.tmp 423) rfl (ev_same (by rw [put_size, hsz]; decide))) ?_
  refine wpl_appQ 422 424 425 rfl rfl rfl _ w0.heap.size rqv (I.D.off i + j) _ qb w.heap.size (hR.reqs.1.alloc _) (by omega) (by show _ ≤ (w.heap.push _).size; rw [Array.size_push]; omega) (Go.Deep.blk_alloc_new _ _) (Eq.trans (ev_ne (by decide)) (Eq.trans (ev_ne (by decide)) (ev_same (by rw [hsz]; decide)))) (ev_same (by (repeat rw [put_size]); rw [hsz]; decide)) ?_
  intro g cap w2 hown hgr hat hgl
  refine l_val 30 rfl rfl (r_assign (.tmp 425) rfl (ev_same (by (repeat rw [put_size]); rw [hsz]; decide))) ?_
  refine wpList_nil ?_
  have hTo : Touch (fun _ => False) w (w.alloc (.cells #[ptr qb] 78)) := (Touch.refl _ _).alloc _
  obtain ⟨lab', hFr, hR2⟩ := hR.appReq hTo hgr (g := g) (cap := cap) hat hgl (by rw [hqa]; exact hown)
  have hT2 := hTin.free hFr (by have := hgr.size; have := hTo.size; omega)
  refine hQ _ _ _ (((((hL.put (d := 422) (by omega) _).put (d := 423) (by omega) _).put (d := 424) (by omega) _).put (d := 425) (by omega) _).put30 _) ?_ ⟨lab', A, ks, vs, hra, hT2, hR2⟩
  (iterate 5 (refine Eq.trans (put_get (by decide)) ?_))
  exact e38

set_option maxRecDepth 100000 in
set_option maxHeartbeats 1000000 in
/-- regions 80 and 81: the request goes into rec.waiting and into reqs -/
theorem r8081 (I : Inp) (w0 : World) (psB mbB tsB rsB : Nat) (B : MB) (i inB ra j qb : Nat) (σ : Nat → TS) (wt : List Int) (rqv wtv : Value) (hjn : j < (I.R i).nw) (hnw : (I.R i).nw ≤ 4096) (hoff : I.D.off i ≤ 4096) (lab : Lab) (A : Adr) (ks vs : Nat → Value) (w W1 : World) (hra : A.ra i = ra) (hTin : Tmp lab w inB (inL I i))
    (hR : RS I w0 lab w A psB mbB tsB rsB B ks vs i (i + 1) (upd (NH I) i (I.R i).nh) (upd (NW I) i j) (I.D.off i + j) (fun t => (σ t).s) (fun t => (σ t).f) (fun t => (σ t).kv) (fun t => (σ t).kv) wt rqv wtv) (hT1 : Touch (fun _ => False) w W1) (hqb : w.heap.size ≤ qb) (hqb2 : qb < W1.heap.size) (hQO : QObj W1 qb (A.ta (I.D.qt i j)) (-7))
    (a : Act) (hL : LvR I psB mbB tsB rsB B i inB ra rqv wtv a) (e38 : a.tmps[38]? = some (.int .i64 j)) (e39 : a.tmps[39]? = some (ptr qb)) (Q : Exit → Act → World → Prop)
    (hQ : ∀ a' w' rqv', LvR I psB mbB tsB rsB B i inB ra rqv' wtv a' → a'.tmps[38]? = some (.int .i64 j) → RSt I w0 w' psB mbB tsB rsB B i inB ra i (I.R i).nh (j + 1) σ wt rqv' wtv → Q .normal a' w') :
    Code.wp Yba.prog (nav [1, 1, 1, 1, 1, 1, 1, 1, 1, 1, 1, 1, 1, 1, 1, 1, 1, 1, 1, 1, 1, 0, 1, 0, 0, 1, 0, 0, 1, 1, 1, 1, 1, 0, 1, 0, 0, 1, 0, 0, 1] (Yba.f3.body.getD .skip)) Q a W1 := by
  have hsz := hL.size
  have E35 := ev_of hL.s35
  have E30 := ev_of hL.s30
  have E39 := ev_of e39
  have hR1 := hR.touch0 hT1
  have hRi := hR1.recs i (by omega)
  rw [upd_same, upd_same] at hRi
  obtain ⟨gg, r1, -, -, -, r10, -⟩ := hRi.obj.obj
  have c10 := r1.cell (i := 10) (by omega)
  have z10 := r1.frozen 10
  rw [r10, hra] at c10
  rw [hra] at z10
  have hral := r1.lt
  rw [hra] at hral
  have hno : some ra ≠ (A.wv i).ownBlock := fun e => by
    have := hRi.wait.2 _ e.symm
    rw [← hra, hRi.tag] at this
    cases this
  have hNs := hR1.labs.bel.size
  conv => arg 2; whnf
  refine wp_seq ?_
  refine wp_region_lit ?_
  refine l_val 412 rfl rfl (r_move (.tmp 35) rfl E35) ?_
  refine l_val 413 rfl rfl (r_move (.tmp 35) rfl (Eq.trans (ev_ne (by decide)) E35)) ?_
  refine l_val 414 rfl rfl (r_nil (.tmp 413) rfl (ev_same (by rw [put_size, hsz]; decide))) ?_
  refine l_val 415 rfl rfl (r_f72' (b := ra) (.tmp 414) rfl (ev_same (by rw [put_size, put_size, hsz]; decide))) ?_
  refine l_val 416 rfl rfl (r_load67 (.tmp 415) rfl (ev_same (by rw [put_size, put_size, put_size, hsz]; decide)) c10) ?_
  refine l_val 417 rfl rfl (r_move (.tmp 39) rfl (Eq.trans (ev_ne (by decide)) (Eq.trans (ev_ne (by decide)) (Eq.trans (ev_ne (by decide)) (Eq.trans (ev_ne (by decide)) (Eq.trans (ev_ne (by decide)) E39)))))) ?_
  refine l_val 418 rfl rfl (r_bsl67 (b := qb) (.tmp 417) rfl (ev_same (by (repeat rw [put_size]); rw [hsz]; decide))) ?_
  refine wpl_appQ 416 418 419 rfl rfl rfl _ w0.heap.size (A.wv i) j _ qb W1.heap.size (hRi.wait.1.alloc _) (by omega) (by show _ ≤ (W1.heap.push _).size; rw [Array.size_push]; omega) (Go.Deep.blk_alloc_new _ _) (Eq.trans (ev_ne (by decide)) (Eq.trans (ev_ne (by decide)) (ev_same (by (repeat rw [put_size]); rw [hsz]; decide)))) (ev_same (by (repeat rw [put_size]); rw [hsz]; decide)) ?_
  intro g cap w2 hown hgr hat hgl
  have hsA : (W1.alloc (.cells #[ptr qb] 78)).heap.size = W1.heap.size + 1 := by show (W1.heap.push _).size = _; simp
  have hbr : w2.heap[ra]? = W1.heap[ra]? := (hgr.block ra (by rw [hsA]; omega) hno).trans (Go.Deep.blk_alloc_lt W1 _ _ hral)
  refine l_val 420 rfl rfl (r_nil (ad := ⟨ra, 0, none⟩) (.tmp 412) rfl (by (iterate 7 (refine Eq.trans (ev_ne (by decide)) ?_)); exact ev_same (by rw [hsz]; decide))) ?_
  refine l_val 421 rfl rfl (r_f72' (b := ra) (.tmp 420) rfl (ev_same (by (repeat rw [put_size]); rw [hsz]; decide))) ?_
  refine l_store rfl rfl (r_store67 (.tmp 421) (.tmp 419) rfl (ev_same (by (repeat rw [put_size]); rw [hsz]; decide)) (Eq.trans (ev_ne (by decide)) (Eq.trans (ev_ne (by decide)) (ev_same (by (repeat rw [put_size]); rw [hsz]; decide)))) ((World.cell?_of_block (a := ⟨ra, 10, none⟩) hbr).trans c10) ((World.frozen?_of_block (a := ⟨ra, 10, none⟩) hbr).trans z10)) ?_
  refine wpList_nil ?_
  have hTo : Touch (fun _ => False) w (W1.alloc (.cells #[ptr qb] 78)) := hT1.alloc _
  obtain ⟨lab', A', e1, e2, e3, e4, hFr, hR2⟩ := hR.appWait (i := i) rfl (by rw [upd_same]) (fun k hk => upd_other _ _ (by omega)) hTo (qb := qb) hqb (by rw [hsA]; omega) (by
    rw [upd_same]
    exact hQO.of_block (Go.Deep.blk_alloc_lt W1 _ _ hqb2)) hgr hat hgl (by rw [upd_same]; exact hown) rfl
  rw [upd_same, upd_upd, hra] at hR2
  rw [upd_same, hra] at hFr
  have hT2 := hTin.free hFr (by rw [setCell_size]; have := hgr.size; have := hTo.size; omega)
  show Code.wp Yba.prog _ Q _ _
  refine r81 I w0 psB mbB tsB rsB B i inB ra j qb σ wt rqv wtv hjn hnw hoff lab' A' ks vs _ (by rw [e3]; exact hra) hT2 e4 hR2 _ ((((((((((hL.put (d := 412) (by omega) _).put (d := 413) (by omega) _).put (d := 414) (by omega) _).put (d := 415) (by omega) _).put (d := 416) (by omega) _).put (d := 417) (by omega) _).put (d := 418) (by omega) _).put (d := 419) (by omega) _).put (d := 420) (by omega) _).put (d := 421) (by omega) _) ?_ ?_ Q hQ
  · (iterate 10 (refine Eq.trans (put_get (by decide)) ?_))
    exact e38
  · (iterate 10 (refine Eq.trans (put_get (by decide)) ?_))
    exact e39
end Go.Proofs.Ybulkeyzg
