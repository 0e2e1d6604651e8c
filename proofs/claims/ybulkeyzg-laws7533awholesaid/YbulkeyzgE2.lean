import Derived.Test.YbulkeyzgE1
namespace Go.Proofs.Ybulkeyzg
open Go.RowKit

/-- all that lies when the locks have been moved -/
structure FS (I : Inp) (w0 : World) (lab : Lab) (w : World) (A : Adr) (psB mbB tsB rsB : Nat) (B : MB) (ks vs : Nat → Value) (rqv wtv : Value) (β : Nat → Int) : Prop where
  labs : Labs w0 w lab
  pg : PG I lab w A psB mbB I.D.np
  tts : lab tsB = some (1, 9, 0)
  rts : w.rowIs tsB 45 I.D.nt (fun i => ptr (A.ta i))
  trx : TrxAt lab w I.D A I.D.nt (I.D.N I.σ0 I.lr)
  mod : ModS lab w w0.heap.size I.D.nt B ks vs (I.D.N I.σ0 I.lr)
  trs : lab rsB = some (1, 0, 0)
  rrs : w.rowIs rsB 39 I.lr (fun i => ptr (A.ra i))
  recs : ∀ i, i < I.lr → RecAt lab w w0.heap.size I.D A i (I.R i).nh (I.R i).nw
  reqo : QAt lab w I.D A I.lr β
  reqb : ∀ x, x < I.D.off I.lr → (I.D.outs I.σ0 I.lr)[x]? = some (β x)
  reqs : Sl lab w w0.heap.size (1, 10, 0) 78 1 rqv (I.D.off I.lr) ((List.range (I.D.off I.lr)).map fun g => ptr (A.qa g))
  want : Sl lab w w0.heap.size (6, 0, 0) 3 1 wtv (I.D.off I.lr) ((I.D.outs I.σ0 I.lr).map fun z => .int .i64 z)
def Fin (I : Inp) (w0 : World) (psB mbB tsB rsB : Nat) (B : MB) (rqv wtv : Value) (w : World) : Prop := ∃ lab A ks vs β, FS I w0 lab w A psB mbB tsB rsB B ks vs rqv wtv β

theorem FS.touch0 {I : Inp} {w0 w w' : World} {lab : Lab} {A : Adr} {psB mbB tsB rsB : Nat} {B : MB} {ks vs : Nat → Value} {rqv wtv : Value} {β : Nat → Int} (h : FS I w0 lab w A psB mbB tsB rsB B ks vs rqv wtv β) (ht : Touch (fun _ => False) w w') : FS I w0 lab w' A psB mbB tsB rsB B ks vs rqv wtv β := by
  have hs : Grow lab lab (fun _ => True) w w' := Grow.of_same (Same.none h.labs ht _)
  exact ⟨h.labs.touch0 ht, h.pg.grow hs trivial, h.tts, h.rts.of_block (hs _ _ h.tts trivial).2, h.trx.grow hs trivial, Mod.grow h.mod hs trivial, h.trs, h.rrs.of_block (hs _ _ h.trs trivial).2, fun i hi => (h.recs i hi).grow hs trivial, h.reqo.grow hs trivial, h.reqb, h.reqs.grow hs trivial, h.want.grow hs trivial⟩
theorem Fin.touch0 {I : Inp} {w0 w w' : World} {psB mbB tsB rsB : Nat} {B : MB} {rqv wtv : Value} (h : Fin I w0 psB mbB tsB rsB B rqv wtv w) (ht : Touch (fun _ => False) w w') : Fin I w0 psB mbB tsB rsB B rqv wtv w' := by
  obtain ⟨lab, A, ks, vs, β, h⟩ := h
  exact ⟨lab, A, ks, vs, β, h.touch0 ht⟩

theorem off_split (D : Dat) : ∀ (n x : Nat), x < D.off n → ∃ i j, i < n ∧ j < (D.R i).nw ∧ x = D.off i + j
  | 0, x, h => by simp [Dat.off] at h
  | n + 1, x, h => by
    by_cases e : x < D.off n
    · obtain ⟨i, j, h1, h2, h3⟩ := off_split D n x e
      exact ⟨i, j, by omega, h2, h3⟩
    · exact ⟨n, x - D.off n, by omega, by have : D.off (n + 1) = D.off n + (D.R n).nw := rfl; omega, by omega⟩

theorem Lv3.of {I : Inp} {psB mbB tsB rsB : Nat} {B : MB} {i : Nat} {rqv wtv : Value} {a a' : Act} (h : Lv3 I psB mbB tsB rsB B i rqv wtv a) (hs : a'.tmps.size = 831) (hd : a'.defers = []) (hq : ∀ q, q < 33 → a'.tmps[q]? = a.tmps[q]?) : Lv3 I psB mbB tsB rsB B i rqv wtv a' :=
  ⟨⟨⟨⟨hs, hd, (hq 0 (by omega)).trans h.s0, (hq 1 (by omega)).trans h.s1, (hq 2 (by omega)).trans h.s2⟩, (hq 10 (by omega)).trans h.s10, (hq 11 (by omega)).trans h.s11, (hq 12 (by omega)).trans h.s12⟩, (hq 17 (by omega)).trans h.s17, (hq 18 (by omega)).trans h.s18, (hq 19 (by omega)).trans h.s19, (hq 20 (by omega)).trans h.s20, (hq 21 (by omega)).trans h.s21, (hq 22 (by omega)).trans h.s22⟩, (hq 29 (by omega)).trans h.s29, (hq 30 (by omega)).trans h.s30, (hq 31 (by omega)).trans h.s31, (hq 32 (by omega)).trans h.s32⟩

theorem l_call {P : Program} {ops : Array Oper} {Q : Exit → Act → World → Prop} {a : Act} {w : World} {o : Oper} {rest : List Oper} {fn : Nat} {args : Array Value} {R : Ending → World → Prop} (d : Nat) (hd : o.dst = some d) (hg : o.guard = none) (h : (execOp a.eval o).run P w = .ok (.enter fn args) w) (hc : Calls P fn args w R)
    (hR : ∀ e w', R e w' → ∃ v, e = .returned v ∧ wpList P ops Q rest (a.put (some d) v) w') : wpList P ops Q (o :: rest) a w :=
  wpList_plain hg fun K hK => by
    unfold Oper.wp
    rw [h]
    refine Calls.mono hc fun e w' hr => ?_
    obtain ⟨v, rfl, hk⟩ := hR e w' hr
    have : K (a.put o.dst v) w' := hK _ _ (by rw [hd]; exact hk)
    exact this
theorem r_call8 {ρ : Operand → Value} {o : Oper} {w : World} (x : Operand) (ho : o.op = .call { callee := .value (.func 8), args := #[x], argTypes := #[66] }) (hf : ρ (.func 8) = .func (.func 8) #[] #[]) {a : Value} (h1 : ρ x = a) : (execOp ρ o).run Yba.prog w = .ok (.enter 8 #[a]) w := by
  unfold execOp; rw [ho]; simp only; go_simp

set_option maxRecDepth 100000 in
set_option maxHeartbeats 1000000 in
/-- region 110: 'moveLocks(rs)' -/
theorem x110 (I : Inp) (w0 : World) (hlr : I.lr ≤ 4096) (htot : tot I I.lr ≤ 4096) (psB mbB tsB rsB : Nat) (B : MB) (Q : Exit → Act → World → Prop) (K : Act → World → Prop) (hK : ∀ a w rqv wtv, Lv3 I psB mbB tsB rsB B I.lr rqv wtv a → Fin I w0 psB mbB tsB rsB B rqv wtv w → K a w) (a : Act) (w : World) (h : M10 I w0 psB mbB tsB rsB B a w) :
    Code.wp Yba.prog (nav [1, 1, 1, 1, 1, 1, 1, 1, 1, 1, 1, 1, 1, 1, 1, 1, 1, 1, 1, 1, 1, 1, 0] (Yba.f3.body.getD .skip)) (Exit.then K Q) a w := by
  obtain ⟨rqv, wtv, hL, lab, A, ks, vs, hR⟩ := h
  have hsz := hL.size
  have E29 := ev_of hL.s29
  have hb : ∀ i, i < I.lr → (I.R i).nh + (I.R i).nw ≤ 4096 := fun i hi => by
    have h1 : (I.R i).nh + (I.R i).nw ≤ sumN (fun i => (I.R i).nh + (I.R i).nw) I.lr := sumN_le (f := fun i => (I.R i).nh + (I.R i).nw) hi
    unfold tot at htot
    omega
  have hS : Still lab w w0.heap.size I.D A rsB := ⟨hR.trs, hR.rrs.congr fun i hi => upto_lt _ _ hi, hR.pg.pages, fun i hi => hR.recs i hi⟩
  have hc := moveLocks_any lab w w0.heap.size I.D A rsB I.lr I.σ0 (fun _ => -7) I.D_fine hR.labs.lt hS hR.trx (fun i hi j hj => hR.reqo i hi j hj) hlr (fun i hi => by have := hb i hi; show (I.R i).nh ≤ _; omega) (fun i hi => by have := hb i hi; show (I.R i).nw ≤ _; omega)
  conv => arg 2; whnf
  refine wp_region_lit ?_
  refine l_val 563 rfl rfl (r_move (.tmp 29) rfl E29) ?_
  refine l_call 564 rfl rfl (r_call8 (.tmp 563) rfl rfl (by exact ev_same (by rw [hsz]; decide))) hc ?_
  rintro e w' ⟨rfl, hM⟩
  refine ⟨_, rfl, ?_⟩
  refine wpList_nil ?_
  refine hK _ _ rqv wtv (hL.of (by (repeat rw [put_size]); exact hsz) (by (repeat rw [put_defers]); exact hL.defers) (fun q hq => by (iterate 2 (refine Eq.trans (put_get (by omega)) ?_)); rfl)) ?_
  obtain ⟨hT, htrx, β, hβ, hβo⟩ := hM
  have hG : Grow lab lab (fun k => k ≠ 2 ∧ k ≠ 5) w w' := Grow.of_same (Same.of_touch hT hR.labs.lt fun b x hb hk hS => by
    obtain ⟨y, h1, h2⟩ := hS
    rw [hb] at h1
    cases h1
    omega)
  have hw := hR.want
  rw [I.D.outs_len] at hw
  exact ⟨lab, A, ks, vs, β, hR.labs.move hT fun b ⟨x, hb, _⟩ => hR.labs.ge b x hb, hR.pg.grow hG (by simp), hR.tts, hR.rts.of_block (hG _ _ hR.tts (by simp)).2, htrx, Mod.grow hR.mod hG (by simp), hR.trs, (hR.rrs.congr fun i hi => upto_lt _ _ hi).of_block (hG _ _ hR.trs (by simp)).2, fun i hi => (hR.recs i hi).grow hG (by simp), hβ, hβo, hR.reqs.grow hG (by simp), hw.grow hG (by simp)⟩

def I20 (I : Inp) (w0 : World) (psB mbB tsB rsB : Nat) (B : MB) (rqv wtv : Value) (a : Act) (w : World) : Prop := Lv3 I psB mbB tsB rsB B I.lr rqv wtv a ∧ Fin I w0 psB mbB tsB rsB B rqv wtv w ∧ ∃ x : Nat, x ≤ I.D.off I.lr ∧ a.tmps[50]? = some (.int .i64 x)
theorem intAt {a : Act} {k n : Nat} (h : a.tmps[k]? = some (.int .i64 n)) : (intOf (a.tmps.getD k undef)).toNat = n := by
  rw [Array.getD_eq_getD_getElem?, h]
  simp [intOf]

set_option maxRecDepth 100000 in
set_option maxHeartbeats 1000000 in
theorem loop20 (I : Inp) (w0 : World) (hoff : I.D.off I.lr ≤ 4096) (psB mbB tsB rsB : Nat) (B : MB) (rqv wtv : Value) (Q : Exit → Act → World → Prop) (K : Act → World → Prop) (hK : ∀ a w, Lv3 I psB mbB tsB rsB B I.lr rqv wtv a → Fin I w0 psB mbB tsB rsB B rqv wtv w → K a w) (a : Act) (w : World) (h : I20 I w0 psB mbB tsB rsB B rqv wtv a w) :
    Code.wp Yba.prog (nav [1, 1, 1, 1, 1, 1, 1, 1, 1, 1, 1, 1, 1, 1, 1, 1, 1, 1, 1, 1, 1, 1, 1, 0, 1] (Yba.f3.body.getD .skip)) (Exit.then K Q) a w := by
  refine wp_block_loop K (I20 I w0 psB mbB tsB rsB B rqv wtv) (fun a _ => I.D.off I.lr - (intOf (a.tmps.getD 50 undef)).toNat) h ?_
  clear h a w
  rintro a w ⟨hL, hF, x, hx, e50⟩
  have HF := hF
  obtain ⟨lab, A, ks, vs, β, hS⟩ := hF
  have hsz := hL.size
  have E30 := ev_of hL.s30
  have E31 := ev_of hL.s31
  have E50 := ev_of e50
  obtain ⟨ra, rc, hrq⟩ := hS.reqs.slice
  rw [hrq] at E30
  refine wp_seq ?_
  refine wp_seq ?_
  refine wp_region_lit ?_
  refine l_val 565 rfl rfl (r_move (v := .int .i64 x) (.tmp 50) rfl (by exact E50)) ?_
  refine l_val 566 rfl rfl (r_move (v := .slice ra (I.D.off I.lr) rc) (.tmp 30) rfl (by (iterate 1 (refine Eq.trans (ev_ne (by decide)) ?_)); exact E30)) ?_
  refine l_val 567 rfl rfl (r_len67 (b := ra) (n := I.D.off I.lr) (c := rc) (.tmp 566) rfl (by exact ev_same (by (repeat rw [put_size]); rw [hsz]; decide))) ?_
  refine l_val 568 rfl rfl (r_lss3 (m := x) (n := I.D.off I.lr) (.tmp 565) (.tmp 567) rfl (by (iterate 2 (refine Eq.trans (ev_ne (by decide)) ?_)); exact ev_same (by (repeat rw [put_size]); rw [hsz]; decide)) (by exact ev_same (by (repeat rw [put_size]); rw [hsz]; decide))) ?_
  refine wpList_nil ?_
  show Code.wp Yba.prog _ _ _ _
  by_cases hxl : x < I.D.off I.lr
  · obtain ⟨i, j, hi, hj, hxe⟩ := off_split I.D I.lr x hxl
    obtain ⟨-, q1⟩ := hS.reqo i hi j hj
    rw [← hxe] at q1
    obtain ⟨gq, q2, -, q6⟩ := q1.obj
    have cq := q2.cell (i := 6) (by omega)
    rw [q6] at cq
    obtain ⟨g1, cap1, u1, h11, h12, h13, -⟩ := hS.reqs.cell hxl
    obtain ⟨g2, cap2, u2, h21, h22, h23, -⟩ := hS.want.cell hxl
    rw [hrq] at h11
    cases h11
    rw [h21] at E31
    have hu1 : u1 = ptr (A.qa x) := by
      rw [List.getElem?_map, List.getElem?_range hxl] at h12
      exact (Option.some.inj h12).symm
    have hu2 : u2 = .int .i64 (β x) := by
      rw [List.getElem?_map, hS.reqb x hxl] at h22
      exact (Option.some.inj h22).symm
    rw [hu1] at h13
    rw [hu2] at h23
    refine wp_cond_true (by rw [ev_same (by (repeat rw [put_size]); rw [hsz]; decide), decide_eq_true hxl]) ?_
    refine wp_skip ?_
    show Code.wp Yba.prog _ _ _ _
    refine wp_seq ?_
    refine wp_block ?_
    refine wp_seq ?_
    refine wp_region_quiet_lit (by kernel_rfl) (by kernel_rfl) ?_
    refine q_val 571 rfl rfl (fun w' hw' => r_move (v := .slice (some ⟨g1, 0, none⟩) (I.D.off I.lr) rc) (.tmp 30) rfl (by (iterate 4 (refine Eq.trans (ev_ne (by decide)) ?_)); exact E30)) ?_
    refine q_val 572 rfl rfl (fun w' hw' => r_move (v := .int .i64 x) (.tmp 50) rfl (by (iterate 5 (refine Eq.trans (ev_ne (by decide)) ?_)); exact E50)) ?_
    refine q_val 573 rfl rfl (fun w' hw' => r_ix67 (b := g1) (n := I.D.off I.lr) (c := rc) (i := x) (.tmp 571) (.tmp 572) rfl hxl (by (iterate 1 (refine Eq.trans (ev_ne (by decide)) ?_)); exact ev_same (by (repeat rw [put_size]); rw [hsz]; decide)) (by exact ev_same (by (repeat rw [put_size]); rw [hsz]; decide))) ?_
    refine q_val 574 rfl rfl (fun w' hw' => r_ld78 (.tmp 573) rfl (by exact ev_same (by (repeat rw [put_size]); rw [hsz]; decide)) (by obtain ⟨n, rfl⟩ := hw'; exact h13)) ?_
    refine q_val 575 rfl rfl (fun w' hw' => r_nil (ad := ⟨A.qa x, 0, none⟩) (.tmp 574) rfl (by exact ev_same (by (repeat rw [put_size]); rw [hsz]; decide))) ?_
    refine q_val 576 rfl rfl (fun w' hw' => r_fo83_5 (b := A.qa x) (.tmp 575) rfl (by exact ev_same (by (repeat rw [put_size]); rw [hsz]; decide))) ?_
    refine q_val 577 rfl rfl (fun w' hw' => r_ld3 (.tmp 576) rfl (by exact ev_same (by (repeat rw [put_size]); rw [hsz]; decide)) (by obtain ⟨n, rfl⟩ := hw'; exact cq)) ?_
    refine q_val 578 rfl rfl (fun w' hw' => r_move (v := .slice (some ⟨g2, 0, none⟩) (I.D.off I.lr) cap2) (.tmp 31) rfl (by (iterate 11 (refine Eq.trans (ev_ne (by decide)) ?_)); exact E31)) ?_
    refine q_val 579 rfl rfl (fun w' hw' => r_move (v := .int .i64 x) (.tmp 50) rfl (by (iterate 12 (refine Eq.trans (ev_ne (by decide)) ?_)); exact E50)) ?_
    refine q_val 580 rfl rfl (fun w' hw' => r_idx33 (b := g2) (n := I.D.off I.lr) (c := cap2) (i := x) (.tmp 578) (.tmp 579) rfl hxl (by (iterate 1 (refine Eq.trans (ev_ne (by decide)) ?_)); exact ev_same (by (repeat rw [put_size]); rw [hsz]; decide)) (by exact ev_same (by (repeat rw [put_size]); rw [hsz]; decide))) ?_
    refine q_val 581 rfl rfl (fun w' hw' => r_ld3 (.tmp 580) rfl (by exact ev_same (by (repeat rw [put_size]); rw [hsz]; decide)) (by obtain ⟨n, rfl⟩ := hw'; exact h23)) ?_
    refine q_val 582 rfl rfl (fun w' hw' => r_neq3 (z := β x) (.tmp 577) (.tmp 581) rfl (by (iterate 4 (refine Eq.trans (ev_ne (by decide)) ?_)); exact ev_same (by (repeat rw [put_size]); rw [hsz]; decide)) (by exact ev_same (by (repeat rw [put_size]); rw [hsz]; decide))) ?_
    refine wpQuiet_nil ?_
    rintro w' ⟨n, rfl⟩
    show Code.wp Yba.prog _ _ _ _
    refine wp_cond_false (by exact ev_same (by (repeat rw [put_size]); rw [hsz]; decide)) ?_
    refine wp_skip ?_
    show Code.wp Yba.prog _ _ _ _
    refine wp_region_lit ?_
    refine l_val 569 rfl rfl (r_move (v := .int .i64 x) (.tmp 50) rfl (by (iterate 16 (refine Eq.trans (ev_ne (by decide)) ?_)); exact E50)) ?_
    refine l_val 570 rfl rfl (r_inc3 (m := x) (.tmp 569) rfl (by omega) (by exact ev_same (by (repeat rw [put_size]); rw [hsz]; decide)) rfl) ?_
    refine l_val 50 rfl rfl (r_assign (v := .int .i64 ((x + 1 : Nat) : Int)) (.tmp 570) rfl (by exact ev_same (by (repeat rw [put_size]); rw [hsz]; decide))) ?_
    refine wpList_nil ?_
    have e50' : ∀ (a : Act) (v : Value), a.tmps.size = 831 → (a.put (some 50) v).tmps[50]? = some v := fun a v h => put_self (by rw [h]; decide)
    refine ⟨⟨hL.of (by (repeat rw [put_size]); exact hsz) (by (repeat rw [put_defers]); exact hL.defers) (fun q hq => by (iterate 19 (refine Eq.trans (put_get (by omega)) ?_)); rfl), HF.touch0 ((Touch.refl _ _).drewN n), x + 1, hxl, e50' _ _ (by (repeat rw [put_size]); exact hsz)⟩, ?_⟩
    show I.D.off I.lr - _ < I.D.off I.lr - _
    rw [intAt (e50' _ _ (by (repeat rw [put_size]); exact hsz)), intAt e50]
    omega
  · refine wp_cond_false (by rw [ev_same (by (repeat rw [put_size]); rw [hsz]; decide), decide_eq_false hxl]) ?_
    refine wp_exit ?_
    refine hK _ _ (hL.of (by (repeat rw [put_size]); exact hsz) (by (repeat rw [put_defers]); exact hL.defers) (fun q hq => by (iterate 4 (refine Eq.trans (put_get (by omega)) ?_)); rfl)) HF
end Go.Proofs.Ybulkeyzg
