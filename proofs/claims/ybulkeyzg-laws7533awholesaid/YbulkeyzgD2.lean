import Derived.Test.YbulkeyzgD1
namespace Go.Proofs.Ybulkeyzg
open Go.RowKit

theorem LvR.of {I : Inp} {psB mbB tsB rsB : Nat} {B : MB} {i inB ra : Nat} {rqv wtv : Value} {a a' : Act} (h : LvR I psB mbB tsB rsB B i inB ra rqv wtv a) (hs : a'.tmps.size = 831) (hd : a'.defers = []) (hq : ∀ q, q < 36 → a'.tmps[q]? = a.tmps[q]?) : LvR I psB mbB tsB rsB B i inB ra rqv wtv a' :=
  ⟨⟨⟨⟨hs, hd, (hq 0 (by omega)).trans h.s0, (hq 1 (by omega)).trans h.s1, (hq 2 (by omega)).trans h.s2⟩, (hq 10 (by omega)).trans h.s10, (hq 11 (by omega)).trans h.s11, (hq 12 (by omega)).trans h.s12⟩, (hq 17 (by omega)).trans h.s17, (hq 18 (by omega)).trans h.s18, (hq 19 (by omega)).trans h.s19, (hq 20 (by omega)).trans h.s20, (hq 21 (by omega)).trans h.s21, (hq 22 (by omega)).trans h.s22⟩, (hq 29 (by omega)).trans h.s29, (hq 30 (by omega)).trans h.s30, (hq 31 (by omega)).trans h.s31, (hq 32 (by omega)).trans h.s32, (hq 33 (by omega)).trans h.s33, (hq 34 (by omega)).trans h.s34, (hq 35 (by omega)).trans h.s35⟩
theorem put_none_size {a : Act} {d : Option Nat} {v : Value} (h : d = none) : (a.put d v).tmps.size = a.tmps.size := by subst h; rfl

section
variable {ρ : Operand → Value} {o : Oper} {w : World}
theorem r_idx44 (x y : Operand) (ho : o.op = .indexAddr 44 x y) {b n c i : Nat} (hi : i < n) (h : ρ x = .slice (some ⟨b, 0, none⟩) n c) (h' : ρ y = .int .i64 i) : (execOp ρ o).run Yba.prog w = .ok (.value (.pointer (some ⟨b, i, none⟩))) w := by
  have u3 := Yba.underlying44
  have u4 := Yba.underlying33
  have h0 : (0 : Int) ≤ i := by omega
  have h1 : (i : Int) < n := by omega
  unfold execOp; rw [ho]; simp only; go_simp
theorem r_idx43 (x y : Operand) (ho : o.op = .indexAddr 43 x y) {b n c i : Nat} (hi : i < n) (h : ρ x = .slice (some ⟨b, 0, none⟩) n c) (h' : ρ y = .int .i64 i) : (execOp ρ o).run Yba.prog w = .ok (.value (.pointer (some ⟨b, i, none⟩))) w := by
  have u3 := Yba.underlying43
  have u4 := Yba.underlying65
  have h0 : (0 : Int) ≤ i := by omega
  have h1 : (i : Int) < n := by omega
  unfold execOp; rw [ho]; simp only; go_simp
theorem r_idx33 (x y : Operand) (ho : o.op = .indexAddr 33 x y) {b n c i : Nat} (hi : i < n) (h : ρ x = .slice (some ⟨b, 0, none⟩) n c) (h' : ρ y = .int .i64 i) : (execOp ρ o).run Yba.prog w = .ok (.value (.pointer (some ⟨b, i, none⟩))) w := by
  have u3 := Yba.underlying33
  have u4 := Yba.underlying3
  have h0 : (0 : Int) ≤ i := by omega
  have h1 : (i : Int) < n := by omega
  unfold execOp; rw [ho]; simp only; go_simp
theorem r_loadB (t : Nat) (ht : t = 33 ∨ t = 65 ∨ t = 3) (x : Operand) (ho : o.op = .load t x) {b q : Nat} (h : ρ x = .pointer (some ⟨b, q, none⟩)) {v : Value} (hc : w.cell? ⟨b, q, none⟩ = some v) : (execOp ρ o).run Yba.prog w = .ok (.value v) w := by
  have u1 := Yba.underlying33
  have u2 := Yba.underlying65
  have u3 := Yba.underlying3
  rcases ht with rfl | rfl | rfl
  · unfold execOp; rw [ho]; simp only; go_simp
  · unfold execOp; rw [ho]; simp only; go_simp
  · unfold execOp; rw [ho]; simp only; go_simp
theorem r_load57 (x : Operand) (ho : o.op = .load 57 x) {b : Nat} (h : ρ x = .pointer (some ⟨b, 0, none⟩)) {v0 v1 v2 : Value} (h0 : w.cell? ⟨b, 0, none⟩ = some v0) (h1 : w.cell? ⟨b, 1, none⟩ = some v1) (h2 : w.cell? ⟨b, 2, none⟩ = some v2) : (execOp ρ o).run Yba.prog w = .ok (.value (.agg #[v0, v1, v2])) w := by
  have u1 := Yba.underlying57
  unfold execOp; rw [ho]; simp only; go_simp
theorem r_bsl33 (x : Operand) (ho : o.op = .buildSlice 33 1 #[(0, x)]) {z : Int} (h : ρ x = .int .i64 z) : (execOp ρ o).run Yba.prog w = .ok (.value (.slice (some ⟨w.heap.size, 0, none⟩) 1 1)) (w.alloc (.cells #[.int .i64 z] 3)) := by
  have u3 := Yba.underlying33
  unfold execOp; rw [ho]; simp only; go_simp
theorem r_bsl65 (x : Operand) (ho : o.op = .buildSlice 65 1 #[(0, x)]) {p m q : Nat} (h : ρ x = .agg #[.int .i64 p, .int .u8 m, .int .u8 q]) : (execOp ρ o).run Yba.prog w = .ok (.value (.slice (some ⟨w.heap.size, 0, none⟩) 1 1)) (w.alloc (.cells #[.int .i64 p, .int .u8 m, .int .u8 q] 57)) := by
  have u3 := Yba.underlying65
  unfold execOp; rw [ho]; simp only; go_simp
theorem r_storeB (t : Nat) (ht : t = 33 ∨ t = 65) (x y : Operand) (ho : o.op = .store t x y) {b q g n c : Nat} {v' : Value} (h : ρ x = .pointer (some ⟨b, q, none⟩)) (h' : ρ y = .slice (some ⟨g, 0, none⟩) n c) (hc : w.cell? ⟨b, q, none⟩ = some v') (hz : w.frozen? ⟨b, q, none⟩ = false) : (execOp ρ o).run Yba.prog w = .ok .skip (w.setCell ⟨b, q, none⟩ (.slice (some ⟨g, 0, none⟩) n c)) := by
  have u3 := Yba.underlying33
  have u4 := Yba.underlying65
  rcases ht with rfl | rfl
  · unfold execOp; rw [ho]; simp only; go_simp
  · unfold execOp; rw [ho]; simp only; go_simp
end
/-- 'append(.., n)' in a region that draws nothing -/
theorem wpl_appI {ops : Array Oper} {rest : List Oper} {o : Oper} {a : Act} {Q : Exit → Act → World → Prop} (s x d : Nat) (hd : o.dst = some d) (hgd : o.guard = none) (ho : o.op = .call { callee := .builtin .append, args := #[.tmp s, .tmp x], argTypes := #[33, 33] }) (w : World) (base : Nat) (v : Value) (n : Nat) (xs : List Value) (z : Int) (B : Nat)
    (hown : w.ownsRow base 3 1 v n xs) (hl : n ≤ 100000) (hbase : base ≤ w.heap.size) (hB : w.heap[B]? = some (.cells #[.int .i64 z] 3)) (hs : a.eval (.tmp s) = v) (hx : a.eval (.tmp x) = .slice (some ⟨B, 0, none⟩) 1 1)
    (h : ∀ g cap w', w'.ownsRow base 3 1 (.slice (some ⟨g, 0, none⟩) (n + 1) cap) (n + 1) (xs ++ [.int .i64 z]) → w.grownBy w' v.ownBlock → (v.ownBlock = some g ∨ g = w.heap.size) → g < w'.heap.size → wpList Yba.prog ops Q rest (a.put (some d) (.slice (some ⟨g, 0, none⟩) (n + 1) cap)) w') :
    wpList Yba.prog ops Q (o :: rest) a w := by
  rw [← hd] at h
  obtain ⟨i, hi, hz, h1, h8⟩ := info3'
  exact wpList_append_lies (P := Yba.prog) w hgd (.tmp s) (.tmp x) 33 ho base 3 i _ 1 8 Yba.underlying33 hi hz h1 h8 rfl (by decide) v n _ hs hown ⟨B, 0, none⟩ 1 1 [.int .i64 z] hx rfl (World.news_of_block hB) (by simp [Value.oneCell']) (by decide) (by unfold maxLen; omega) (by omega) hbase _ rfl h

set_option maxRecDepth 100000 in
set_option maxHeartbeats 1000000 in
/-- region 103: 'mVals[t] = append(mVals[t], b)' -/
theorem p103 (I : Inp) (w0 : World) (psB mbB tsB rsB : Nat) (B : MB) (i inB ra j t : Nat) (htn : t < I.D.nt) (k : Key) (z : Int) (s f : Nat → Int) (σ : Nat → TS) (hF : Few 100000 σ) (wt : List Int) (rqv wtv : Value) (σ' : Nat → TS) (hσ : σ' = upd σ t ⟨s t, f t, put k z (σ t).kv⟩) (hsf : ∀ u, u ≠ t → s u = (σ u).s ∧ f u = (σ u).f)
    (lab : Lab) (A : Adr) (ks vs : Nat → Value) (w : World) (hra : A.ra i = ra) (hM : MS I w0 lab w A psB mbB tsB rsB B ks vs i inB s f (upd (fun t => (σ t).kv) t ((σ t).kv ++ [(k, z)])) (fun t => (σ t).kv) wt rqv wtv) (hq : idx k (σ t).kv = none)
    (a : Act) (hL : LvR I psB mbB tsB rsB B i inB ra rqv wtv a) (e40 : a.tmps[40]? = some (.int .i64 j)) (e42 : a.tmps[42]? = some (.int .i64 t)) (e47 : a.tmps[47]? = some (.int .i64 z)) (Q : Exit → Act → World → Prop) (hQ : ∀ a w, F16 I w0 psB mbB tsB rsB B i inB ra j σ' wt rqv wtv a w → Q .normal a w) :
    Code.wp Yba.prog (nav [1, 1, 1, 1, 1, 1, 1, 1, 1, 1, 1, 1, 1, 1, 1, 1, 1, 1, 1, 1, 1, 0, 1, 0, 0, 1, 0, 0, 1, 1, 1, 1, 1, 1, 1, 0, 1, 0, 0, 1, 0, 0, 1, 1, 1, 1, 1, 1, 1, 1, 1, 1, 1, 1, 1, 0, 1] (Yba.f3.body.getD .skip)) Q a w := by
  have hsz := hL.size
  have E22 := ev_of hL.s22
  have E42 := ev_of e42
  have E47 := ev_of e47
  have hv := hM.rs.mod.vals t htn
  have c0 := hM.rs.mod.r3.cell (i := t) htn
  have z0 := hM.rs.mod.r3.frozen t
  have hvl := hM.rs.mod.r3.lt
  have hNs := hM.rs.labs.bel.size
  have hl := hF t
  have hno : some B.vb ≠ (vs t).ownBlock := fun e => by have := hv.2 _ e.symm; rw [hM.rs.mod.t3] at this; cases this
  conv => arg 2; whnf
  refine wp_region_lit ?_
  refine l_val 516 rfl rfl (r_move (.tmp 22) rfl E22) ?_
  refine l_val 517 rfl rfl (r_move (v := .int .i64 t) (.tmp 42) rfl (by (iterate 1 (refine Eq.trans (ev_ne (by decide)) ?_)); exact E42)) ?_
  refine l_val 518 rfl rfl (r_move (v := .slice (some ⟨B.vb, 0, none⟩) I.D.nt I.D.nt) (.tmp 22) rfl (by (iterate 2 (refine Eq.trans (ev_ne (by decide)) ?_)); exact E22)) ?_
  refine l_val 519 rfl rfl (r_move (v := .int .i64 t) (.tmp 42) rfl (by (iterate 3 (refine Eq.trans (ev_ne (by decide)) ?_)); exact E42)) ?_
  refine l_val 520 rfl rfl (r_idx44 (b := B.vb) (n := I.D.nt) (c := I.D.nt) (i := t) (.tmp 518) (.tmp 519) rfl htn (by (iterate 1 (refine Eq.trans (ev_ne (by decide)) ?_)); exact ev_same (by (repeat rw [put_size]); rw [hsz]; decide)) (by exact ev_same (by (repeat rw [put_size]); rw [hsz]; decide))) ?_
  refine l_val 521 rfl rfl (r_loadB 33 (by simp) (.tmp 520) rfl (by exact ev_same (by (repeat rw [put_size]); rw [hsz]; decide)) c0) ?_
  refine l_val 522 rfl rfl (r_move (v := .int .i64 z) (.tmp 47) rfl (by (iterate 6 (refine Eq.trans (ev_ne (by decide)) ?_)); exact E47)) ?_
  refine l_val 523 rfl rfl (r_bsl33 (z := z) (.tmp 522) rfl (by exact ev_same (by (repeat rw [put_size]); rw [hsz]; decide))) ?_
  refine wpl_appI 521 523 524 rfl rfl rfl _ w0.heap.size (vs t) _ _ z w.heap.size (hv.1.alloc _) hl (by show _ ≤ (w.heap.push _).size; rw [Array.size_push]; omega) (Go.Deep.blk_alloc_new _ _) (by (iterate 2 (refine Eq.trans (ev_ne (by decide)) ?_)); exact ev_same (by (repeat rw [put_size]); rw [hsz]; decide)) (by exact ev_same (by (repeat rw [put_size]); rw [hsz]; decide)) ?_
  intro g cap w2 hown hgr hat hgl
  have hsA : (w.alloc (.cells #[.int .i64 z] 3)).heap.size = w.heap.size + 1 := by show (w.heap.push _).size = _; simp
  have hbr : w2.heap[B.vb]? = w.heap[B.vb]? := (hgr.block B.vb (by rw [hsA]; omega) hno).trans (Go.Deep.blk_alloc_lt w _ _ hvl)
  refine l_val 525 rfl rfl (r_idx44 (b := B.vb) (n := I.D.nt) (c := I.D.nt) (i := t) (.tmp 516) (.tmp 517) rfl htn (by (iterate 8 (refine Eq.trans (ev_ne (by decide)) ?_)); exact ev_same (by (repeat rw [put_size]); rw [hsz]; decide)) (by (iterate 7 (refine Eq.trans (ev_ne (by decide)) ?_)); exact ev_same (by (repeat rw [put_size]); rw [hsz]; decide))) ?_
  refine l_store rfl rfl (r_storeB 33 (by simp) (.tmp 525) (.tmp 524) rfl (by exact ev_same (by (repeat rw [put_size]); rw [hsz]; decide)) (by (iterate 1 (refine Eq.trans (ev_ne (by decide)) ?_)); exact ev_same (by (repeat rw [put_size]); rw [hsz]; decide)) ((World.cell?_of_block (a := ⟨B.vb, t, none⟩) hbr).trans c0) ((World.frozen?_of_block (a := ⟨B.vb, t, none⟩) hbr).trans z0)) ?_
  refine wpList_nil ?_
  have hTo : Touch (fun _ => False) w (w.alloc (.cells #[.int .i64 z] 3)) := (Touch.refl _ _).alloc _
  obtain ⟨lab', a0, a1, a2, a3⟩ := hM.rs.mod.appV hM.rs.labs htn (k, z) hTo hgr hown hat hgl rfl
  have hq3 := (idx_none hq).2
  refine hQ _ _ ⟨((((((((((hL.put (d := 516) (by omega) _).put (d := 517) (by omega) _).put (d := 518) (by omega) _).put (d := 519) (by omega) _).put (d := 520) (by omega) _).put (d := 521) (by omega) _).put (d := 522) (by omega) _).put (d := 523) (by omega) _).put (d := 524) (by omega) _).put (d := 525) (by omega) _), ?_, lab', A, _, _, hra, (hM.mod3 a0 (by rw [setCell_size]; have := hgr.size; have := hTo.size; omega) a1 a2 a3).fin fun u hu => ?_⟩
  · (iterate 10 (refine Eq.trans (put_get (by decide)) ?_))
    exact e40
  · by_cases e : u = t
    · subst e
      rw [hσ, upd_same, upd_same]
      try rw [upd_same]
      rw [hq3]
      exact ⟨rfl, rfl, rfl, rfl, rfl⟩
    · rw [hσ, upd_other _ _ e, upd_other _ _ e]
      exact ⟨(hsf u e).1, (hsf u e).2, rfl, rfl, rfl⟩
end Go.Proofs.Ybulkeyzg
