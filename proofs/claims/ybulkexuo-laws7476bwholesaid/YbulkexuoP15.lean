import Derived.Test.YbulkexuoP14
namespace Go.Proofs.Ybulkexuo
open Go.RowKit
set_option linter.unusedSimpArgs false
set_option linter.unusedVariables false


set_option maxRecDepth 100000 in
set_option maxHeartbeats 1000000 in
theorem lp26 (I : IN) (w0 : World) (F : Nat → Prop) (arB : Nat) (st : ST) (B : Nat) (e0 l0 : Value) (hB0 hc0 : Nat) (r0 : Value) (mB r0B fB qB : Nat) (xV : Value) (hF : I.Fine) (hll : I.ll ≤ 4096) (hfin : (fin I.D (I.R0, none)).1 = I.EF) (Qf : Nat → Bool) (hQs : (fin I.D (I.R0, none)).2 = some Qf) (hQf : ∀ q, q < I.N → Qf q = qk I.D I.R0 I.N q) (Q : Exit → Act → World → Prop) (K : Act → World → Prop) (hKK : ∀ a w, Kn 706 ((62, xV) :: (56, .bool (anyk I.D I.R0 I.N)) :: (55, .slice (some ⟨qB, 0, none⟩) I.N I.N) :: (54, .slice (some ⟨fB, 0, none⟩) I.N I.N) :: (51, .slice (some ⟨r0B, 0, none⟩) I.N I.N) :: (50, ptr mB) :: (46, .int .i32 (I.D.asp : Nat)) :: (45, ptr arB) :: (44, r0) :: (43, .slice (some ⟨hB0, 0, none⟩) I.N hc0) :: (42, l0) :: (41, e0) :: (21, .int .i32 I.N) :: LA I) a → TL I w0 F arB st B e0 l0 hB0 hc0 r0 mB r0B fB qB xV w → K a w) (a : Act) (w : World) (hK : Kn 706 ((79, .int .i32 (0 : Nat)) :: (62, xV) :: (56, .bool (anyk I.D I.R0 I.N)) :: (55, .slice (some ⟨qB, 0, none⟩) I.N I.N) :: (54, .slice (some ⟨fB, 0, none⟩) I.N I.N) :: (51, .slice (some ⟨r0B, 0, none⟩) I.N I.N) :: (50, ptr mB) :: (46, .int .i32 (I.D.asp : Nat)) :: (45, ptr arB) :: (44, r0) :: (43, .slice (some ⟨hB0, 0, none⟩) I.N hc0) :: (42, l0) :: (41, e0) :: (21, .int .i32 I.N) :: LA I) a) (hE : TL I w0 F arB st B e0 l0 hB0 hc0 r0 mB r0B fB qB xV w) :
    Code.wp Yba.prog (nav [1, 1, 1, 1, 1, 1, 1, 1, 1, 1, 1, 1, 1, 1, 1, 1, 1, 1, 1, 1, 1, 1, 1, 1, 1, 1, 1, 1, 1, 1, 1, 1, 1, 1, 1, 1, 1, 1, 1, 1, 1, 0, 1, 1, 1, 1] (Yba.f3.body.getD .skip)) (Exit.then K Q) a w := by
  have hN := I.N_le
  have hD := I.fine hF hll
  refine loop_n K (fun n a w => ∃ q, q ≤ I.N ∧ n = I.N - q ∧ Kn 706 ((79, .int .i32 (q : Nat)) :: (62, xV) :: (56, .bool (anyk I.D I.R0 I.N)) :: (55, .slice (some ⟨qB, 0, none⟩) I.N I.N) :: (54, .slice (some ⟨fB, 0, none⟩) I.N I.N) :: (51, .slice (some ⟨r0B, 0, none⟩) I.N I.N) :: (50, ptr mB) :: (46, .int .i32 (I.D.asp : Nat)) :: (45, ptr arB) :: (44, r0) :: (43, .slice (some ⟨hB0, 0, none⟩) I.N hc0) :: (42, l0) :: (41, e0) :: (21, .int .i32 I.N) :: LA I) a ∧ TL I w0 F arB st B e0 l0 hB0 hc0 r0 mB r0B fB qB xV w) ⟨0, Nat.zero_le _, rfl, hK, hE⟩ ?_
  clear hK hE a w
  rintro n a w T ⟨q, hq, hn, hK, hE⟩ hR
  refine wp_seq ?_
  refine wp_seq ?_
  refine wp_region_lit ?_
  refine kl hK 627 rfl (by decide) rfl (fun ρ hρ => r_mv _ rfl (hρ _ _ rfl)) ?_
  clear hK a; intro a hK
  refine kl hK 628 rfl (by decide) rfl (fun ρ hρ => r_mv _ rfl (hρ _ _ rfl)) ?_
  clear hK a; intro a hK
  refine kl hK 629 rfl (by decide) rfl (fun ρ hρ => r_lss21 _ _ rfl (hρ _ _ rfl) (hρ _ _ rfl)) ?_
  clear hK a; intro a hK
  refine wpList_nil ?_
  show Code.wp Yba.prog _ _ _ _
  by_cases hql : q < I.N
  · have hA := hE.arb hfin
    obtain ⟨cb, ib, hcV, hiV, hrc, hri⟩ : ∃ b c, st.cV = .slice (some ⟨b, 0, none⟩) I.N I.N ∧ st.iV = .slice (some ⟨c, 0, none⟩) I.N I.N ∧ w.rowIs b 21 I.N (fun q => .int .i32 (if Qf q = true then I.D.cval q else 0)) ∧ w.rowIs c 21 I.N (fun q => .int .i32 (if Qf q = true then 1 else 0)) := by
      rcases hA.ar.cc with ⟨h1, _⟩ | ⟨Q', b, c, h1, h2, h3, h4, h5, h6⟩
      · rw [hQs] at h1; cases h1
      · rw [hQs] at h1; cases h1
        exact ⟨b, c, h2, h3, h5, h6⟩
    have cc := hA.ar.cells.2.2.2.1
    have ci := hA.ar.cells.2.2.2.2.1
    rw [hcV] at cc
    rw [hiV] at ci
    have ra0 := hrc.cell hql
    have ra1 := hri.cell hql
    have q0 := hE.fq.q.cell hql
    have hQq := hQf q hql
    refine wp_cond_true (by rw [hK.rho (.tmp 629) _ rfl]; exact congrArg Value.bool (decide_eq_true (by omega))) ?_
    refine wp_skip ?_
    show Code.wp Yba.prog _ _ _ _
    replace hK := hK.sub (M := (79, .int .i32 (q : Nat)) :: (62, xV) :: (56, .bool (anyk I.D I.R0 I.N)) :: (55, .slice (some ⟨qB, 0, none⟩) I.N I.N) :: (54, .slice (some ⟨fB, 0, none⟩) I.N I.N) :: (51, .slice (some ⟨r0B, 0, none⟩) I.N I.N) :: (50, ptr mB) :: (46, .int .i32 (I.D.asp : Nat)) :: (45, ptr arB) :: (44, r0) :: (43, .slice (some ⟨hB0, 0, none⟩) I.N hc0) :: (42, l0) :: (41, e0) :: (21, .int .i32 I.N) :: LA I) ⟨rfl, rfl, rfl, rfl, rfl, rfl, rfl, rfl, rfl, rfl, rfl, rfl, rfl, rfl, rfl, rfl, rfl, rfl, rfl, rfl, rfl, rfl, rfl, rfl, trivial⟩
    refine wp_seq ?_
    refine wp_block ?_
    refine wp_seq ?_
    refine wp_region_lit ?_
    refine kl hK 632 rfl (by decide) rfl (fun ρ hρ => r_mv _ rfl (hρ _ _ rfl)) ?_
    clear hK a; intro a hK
    refine kl hK 633 rfl (by decide) rfl (fun ρ hρ => r_mv _ rfl (hρ _ _ rfl)) ?_
    clear hK a; intro a hK
    refine kl hK 634 rfl (by decide) rfl (fun ρ hρ => r_ix42z _ _ rfl hql (hρ _ _ rfl) (hρ _ _ rfl)) ?_
    clear hK a; intro a hK
    refine kl hK 635 rfl (by decide) rfl (fun ρ hρ => r_ld4 _ rfl (hρ _ _ rfl) q0) ?_
    clear hK a; intro a hK
    refine wpList_nil ?_
    show Code.wp Yba.prog _ _ _ _
    cases hk : qk I.D I.R0 I.N q
    · rw [hk] at hQq
      rw [if_neg (by rw [hQq]; simp)] at ra0 ra1
      refine wp_cond_false (by rw [hK.rho (.tmp 635) _ rfl]; exact congrArg Value.bool (hk)) ?_
      replace hK := hK.sub (M := (79, .int .i32 (q : Nat)) :: (62, xV) :: (56, .bool (anyk I.D I.R0 I.N)) :: (55, .slice (some ⟨qB, 0, none⟩) I.N I.N) :: (54, .slice (some ⟨fB, 0, none⟩) I.N I.N) :: (51, .slice (some ⟨r0B, 0, none⟩) I.N I.N) :: (50, ptr mB) :: (46, .int .i32 (I.D.asp : Nat)) :: (45, ptr arB) :: (44, r0) :: (43, .slice (some ⟨hB0, 0, none⟩) I.N hc0) :: (42, l0) :: (41, e0) :: (21, .int .i32 I.N) :: LA I) ⟨rfl, rfl, rfl, rfl, rfl, rfl, rfl, rfl, rfl, rfl, rfl, rfl, rfl, rfl, rfl, rfl, rfl, rfl, rfl, rfl, rfl, rfl, rfl, rfl, trivial⟩
      refine wp_seq ?_
      refine wp_region_lit ?_
      refine kl hK 657 rfl (by decide) rfl (fun ρ hρ => r_mv _ rfl (hρ _ _ rfl)) ?_
      clear hK a; intro a hK
      refine kl hK 658 rfl (by decide) rfl (fun ρ hρ => r_nil _ rfl (hρ _ _ rfl)) ?_
      clear hK a; intro a hK
      refine kl hK 659 rfl (by decide) rfl (fun ρ hρ => r_fo56_14 _ rfl (hρ _ _ rfl)) ?_
      clear hK a; intro a hK
      refine kl hK 660 rfl (by decide) rfl (fun ρ hρ => r_ld33 _ rfl (hρ _ _ rfl) ci) ?_
      clear hK a; intro a hK
      refine kl hK 661 rfl (by decide) rfl (fun ρ hρ => r_mv _ rfl (hρ _ _ rfl)) ?_
      clear hK a; intro a hK
      refine kl hK 662 rfl (by decide) rfl (fun ρ hρ => r_ix33z _ _ rfl hql (hρ _ _ rfl) (hρ _ _ rfl)) ?_
      clear hK a; intro a hK
      refine kl hK 663 rfl (by decide) rfl (fun ρ hρ => r_ld21 _ rfl (hρ _ _ rfl) ra1) ?_
      clear hK a; intro a hK
      refine kl hK 664 rfl (by decide) rfl (fun ρ hρ => r_neq21 _ _ rfl (hρ _ _ rfl) (hρ _ _ rfl)) ?_
      clear hK a; intro a hK
      refine kl hK 665 rfl (by decide) rfl (fun ρ hρ => r_mv _ rfl (hρ _ _ rfl)) ?_
      clear hK a; intro a hK
      refine klg hK 666 8 665 rfl (by decide) rfl (by kernel_rfl) rfl (decide_eq_false (fun h => h rfl)) (fun ρ hρ => r_mv _ rfl (hρ _ _ rfl)) ?_
      clear hK a; intro a hK
      refine klg hK 667 8 665 rfl (by decide) rfl (by kernel_rfl) rfl (decide_eq_false (fun h => h rfl)) (fun ρ hρ => r_nil _ rfl (hρ _ _ rfl)) ?_
      clear hK a; intro a hK
      refine klg hK 668 8 665 rfl (by decide) rfl (by kernel_rfl) rfl (decide_eq_false (fun h => h rfl)) (fun ρ hρ => r_fo56_13 _ rfl (hρ _ _ rfl)) ?_
      clear hK a; intro a hK
      refine klg hK 669 8 665 rfl (by decide) rfl (by kernel_rfl) rfl (decide_eq_false (fun h => h rfl)) (fun ρ hρ => r_ld33 _ rfl (hρ _ _ rfl) cc) ?_
      clear hK a; intro a hK
      refine klg hK 670 8 665 rfl (by decide) rfl (by kernel_rfl) rfl (decide_eq_false (fun h => h rfl)) (fun ρ hρ => r_mv _ rfl (hρ _ _ rfl)) ?_
      clear hK a; intro a hK
      refine klg hK 671 8 665 rfl (by decide) rfl (by kernel_rfl) rfl (decide_eq_false (fun h => h rfl)) (fun ρ hρ => r_ix33z _ _ rfl hql (hρ _ _ rfl) (hρ _ _ rfl)) ?_
      clear hK a; intro a hK
      refine klg hK 672 8 665 rfl (by decide) rfl (by kernel_rfl) rfl (decide_eq_false (fun h => h rfl)) (fun ρ hρ => r_ld21 _ rfl (hρ _ _ rfl) ra0) ?_
      clear hK a; intro a hK
      refine klg hK 673 8 665 rfl (by decide) rfl (by kernel_rfl) rfl (decide_eq_false (fun h => h rfl)) (fun ρ hρ => r_neq21 _ _ rfl (hρ _ _ rfl) (hρ _ _ rfl)) ?_
      clear hK a; intro a hK
      refine kl hK 674 rfl (by decide) rfl (fun ρ hρ => r_pickE _ _ _ rfl (decide_eq_false (fun h => h rfl)) (hρ _ _ rfl) (hρ _ _ rfl)) ?_
      clear hK a; intro a hK
      refine wpList_nil ?_
      show Code.wp Yba.prog _ _ _ _
      refine wp_cond_false (by rw [hK.rho (.tmp 674) _ rfl]; exact congrArg Value.bool (decide_eq_false (fun h => h rfl))) ?_
      refine wp_skip ?_
      show Code.wp Yba.prog _ _ _ _
      refine wp_region_lit ?_
      refine kl hK 630 rfl (by decide) rfl (fun ρ hρ => r_mv _ rfl (hρ _ _ rfl)) ?_
      clear hK a; intro a hK
      refine kl hK 631 rfl (by decide) rfl (fun ρ hρ => r_inc21 _ rfl (by omega) (hρ _ _ rfl) (hρ _ _ rfl)) ?_
      clear hK a; intro a hK
      refine kl hK 79 rfl (by decide) rfl (fun ρ hρ => r_as _ rfl (hρ _ _ rfl)) ?_
      clear hK a; intro a hK
      refine wpList_nil ?_
      exact hR (I.N - (q + 1)) _ _ (by omega) ⟨q + 1, hql, rfl, hK.sub ⟨rfl, rfl, rfl, rfl, rfl, rfl, rfl, rfl, rfl, rfl, rfl, rfl, rfl, rfl, rfl, rfl, rfl, rfl, rfl, rfl, rfl, rfl, rfl, rfl, trivial⟩, hE⟩
    · rw [hk] at hQq
      rw [if_pos hQq] at ra0 ra1
      refine wp_cond_true (by rw [hK.rho (.tmp 635) _ rfl]; exact congrArg Value.bool (hk)) ?_
      replace hK := hK.sub (M := (79, .int .i32 (q : Nat)) :: (62, xV) :: (56, .bool (anyk I.D I.R0 I.N)) :: (55, .slice (some ⟨qB, 0, none⟩) I.N I.N) :: (54, .slice (some ⟨fB, 0, none⟩) I.N I.N) :: (51, .slice (some ⟨r0B, 0, none⟩) I.N I.N) :: (50, ptr mB) :: (46, .int .i32 (I.D.asp : Nat)) :: (45, ptr arB) :: (44, r0) :: (43, .slice (some ⟨hB0, 0, none⟩) I.N hc0) :: (42, l0) :: (41, e0) :: (21, .int .i32 I.N) :: LA I) ⟨rfl, rfl, rfl, rfl, rfl, rfl, rfl, rfl, rfl, rfl, rfl, rfl, rfl, rfl, rfl, rfl, rfl, rfl, rfl, rfl, rfl, rfl, rfl, rfl, trivial⟩
      refine wp_seq ?_
      refine wp_region_noPanic ?_
      refine wp_region_held_drew (S := fun w' => w'.cell? ⟨arB, 18, none⟩ = some (.slice (some ⟨ib, 0, none⟩) I.N I.N) ∧ w'.cell? ⟨arB, 17, none⟩ = some (.slice (some ⟨cb, 0, none⟩) I.N I.N) ∧ w'.cell? ⟨ib, q, none⟩ = some (.int .i32 1) ∧ w'.cell? ⟨cb, q, none⟩ = some (.int .i32 (I.D.cval q))) (by kernel_rfl) ⟨ci, cc, ra1, ra0⟩ (fun hS0 => ?_)
      refine kt hK (i := 0) 636 rfl (by kernel_rfl) (by kernel_rfl) (by kernel_rfl) (fun _ _ _ h => h) hS0 rfl (by decide) rfl (fun ρ hρ w' hw' => r_mv _ rfl (hρ _ _ rfl)) ?_
      clear hK a; intro a hK
      refine kt hK (i := 1) 637 rfl (by kernel_rfl) (by kernel_rfl) (by kernel_rfl) (fun _ _ _ h => h) hS0 rfl (by decide) rfl (fun ρ hρ w' hw' => r_nil _ rfl (hρ _ _ rfl)) ?_
      clear hK a; intro a hK
      refine kt hK (i := 2) 638 rfl (by kernel_rfl) (by kernel_rfl) (by kernel_rfl) (fun _ _ _ h => h) hS0 rfl (by decide) rfl (fun ρ hρ w' hw' => r_fo56_14 _ rfl (hρ _ _ rfl)) ?_
      clear hK a; intro a hK
      refine kt hK (i := 3) 639 rfl (by kernel_rfl) (by kernel_rfl) (by kernel_rfl) (fun _ _ _ h => h) hS0 rfl (by decide) rfl (fun ρ hρ w' hw' => r_ld33 _ rfl (hρ _ _ rfl) (hw'.1)) ?_
      clear hK a; intro a hK
      refine kt hK (i := 4) 640 rfl (by kernel_rfl) (by kernel_rfl) (by kernel_rfl) (fun _ _ _ h => h) hS0 rfl (by decide) rfl (fun ρ hρ w' hw' => r_mv _ rfl (hρ _ _ rfl)) ?_
      clear hK a; intro a hK
      refine kt hK (i := 5) 641 rfl (by kernel_rfl) (by kernel_rfl) (by kernel_rfl) (fun _ _ _ h => h) hS0 rfl (by decide) rfl (fun ρ hρ w' hw' => r_ix33z _ _ rfl hql (hρ _ _ rfl) (hρ _ _ rfl)) ?_
      clear hK a; intro a hK
      refine kt hK (i := 6) 642 rfl (by kernel_rfl) (by kernel_rfl) (by kernel_rfl) (fun _ _ _ h => h) hS0 rfl (by decide) rfl (fun ρ hρ w' hw' => r_ld21 _ rfl (hρ _ _ rfl) (hw'.2.2.1)) ?_
      clear hK a; intro a hK
      refine kt hK (i := 7) 643 rfl (by kernel_rfl) (by kernel_rfl) (by kernel_rfl) (fun _ _ _ h => h) hS0 rfl (by decide) rfl (fun ρ hρ w' hw' => r_neq21 _ _ rfl (hρ _ _ rfl) (hρ _ _ rfl)) ?_
      clear hK a; intro a hK
      refine kt hK (i := 8) 644 rfl (by kernel_rfl) (by kernel_rfl) (by kernel_rfl) (fun _ _ _ h => h) hS0 rfl (by decide) rfl (fun ρ hρ w' hw' => r_mv _ rfl (hρ _ _ rfl)) ?_
      clear hK a; intro a hK
      refine ktg hK (i := 9) 645 8 644 rfl (by kernel_rfl) (by kernel_rfl) (by kernel_rfl) (fun _ _ _ h => h) hS0 rfl (by decide) rfl (by kernel_rfl) rfl (decide_eq_false (fun h => h rfl)) (fun ρ hρ w' hw' => r_mv _ rfl (hρ _ _ rfl)) ?_
      clear hK a; intro a hK
      refine ktg hK (i := 10) 646 8 644 rfl (by kernel_rfl) (by kernel_rfl) (by kernel_rfl) (fun _ _ _ h => h) hS0 rfl (by decide) rfl (by kernel_rfl) rfl (decide_eq_false (fun h => h rfl)) (fun ρ hρ w' hw' => r_nil _ rfl (hρ _ _ rfl)) ?_
      clear hK a; intro a hK
      refine ktg hK (i := 11) 647 8 644 rfl (by kernel_rfl) (by kernel_rfl) (by kernel_rfl) (fun _ _ _ h => h) hS0 rfl (by decide) rfl (by kernel_rfl) rfl (decide_eq_false (fun h => h rfl)) (fun ρ hρ w' hw' => r_fo56_13 _ rfl (hρ _ _ rfl)) ?_
      clear hK a; intro a hK
      refine ktg hK (i := 12) 648 8 644 rfl (by kernel_rfl) (by kernel_rfl) (by kernel_rfl) (fun _ _ _ h => h) hS0 rfl (by decide) rfl (by kernel_rfl) rfl (decide_eq_false (fun h => h rfl)) (fun ρ hρ w' hw' => r_ld33 _ rfl (hρ _ _ rfl) (hw'.2.1)) ?_
      clear hK a; intro a hK
      refine ktg hK (i := 13) 649 8 644 rfl (by kernel_rfl) (by kernel_rfl) (by kernel_rfl) (fun _ _ _ h => h) hS0 rfl (by decide) rfl (by kernel_rfl) rfl (decide_eq_false (fun h => h rfl)) (fun ρ hρ w' hw' => r_mv _ rfl (hρ _ _ rfl)) ?_
      clear hK a; intro a hK
      refine ktg hK (i := 14) 650 8 644 rfl (by kernel_rfl) (by kernel_rfl) (by kernel_rfl) (fun _ _ _ h => h) hS0 rfl (by decide) rfl (by kernel_rfl) rfl (decide_eq_false (fun h => h rfl)) (fun ρ hρ w' hw' => r_ix33z _ _ rfl hql (hρ _ _ rfl) (hρ _ _ rfl)) ?_
      clear hK a; intro a hK
      refine ktg hK (i := 15) 651 8 644 rfl (by kernel_rfl) (by kernel_rfl) (by kernel_rfl) (fun _ _ _ h => h) hS0 rfl (by decide) rfl (by kernel_rfl) rfl (decide_eq_false (fun h => h rfl)) (fun ρ hρ w' hw' => r_ld21 _ rfl (hρ _ _ rfl) (hw'.2.2.2)) ?_
      clear hK a; intro a hK
      refine ktg hK (i := 16) 652 8 644 rfl (by kernel_rfl) (by kernel_rfl) (by kernel_rfl) (fun _ _ _ h => h) hS0 rfl (by decide) rfl (by kernel_rfl) rfl (decide_eq_false (fun h => h rfl)) (fun ρ hρ w' hw' => r_mv _ rfl (hρ _ _ rfl)) ?_
      clear hK a; intro a hK
      refine ktg hK (i := 17) 653 8 644 rfl (by kernel_rfl) (by kernel_rfl) (by kernel_rfl) (fun _ _ _ h => h) hS0 rfl (by decide) rfl (by kernel_rfl) rfl (decide_eq_false (fun h => h rfl)) (fun ρ hρ w' hw' => r_mv _ rfl (hρ _ _ rfl)) ?_
      clear hK a; intro a hK
      have hMd : MV I.D w.drew mB := hE.fq.fm.m.below ((Below.refl w.heap.size w).drew)
      refine kd_callg hK (i := 18) 654 8 644 (by kernel_rfl) rfl rfl (by decide) rfl (by kernel_rfl) rfl (decide_eq_false (fun h => h rfl)) (fun ρ hρ => r_call11 _ _ rfl (hρ _ _ rfl) (hρ _ _ rfl) (hρ _ _ rfl)) (mcval_any I.D hD mB q hql w.drew hMd) ?_
      rintro e w2 ⟨rfl, hb2⟩
      have hb : Below w.heap.size w w2 := bel_trans ((Below.refl w.heap.size w).drew) hb2
      have hS1 : (fun w' => w'.cell? ⟨arB, 18, none⟩ = some (.slice (some ⟨ib, 0, none⟩) I.N I.N) ∧ w'.cell? ⟨arB, 17, none⟩ = some (.slice (some ⟨cb, 0, none⟩) I.N I.N) ∧ w'.cell? ⟨ib, q, none⟩ = some (.int .i32 1) ∧ w'.cell? ⟨cb, q, none⟩ = some (.int .i32 (I.D.cval q))) w2 := ⟨(hb.cell (p := ⟨arB, 18, none⟩) hA.ar.arow).trans ci, (hb.cell (p := ⟨arB, 17, none⟩) hA.ar.arow).trans cc, (hb.cell (p := ⟨ib, q, none⟩) hri.lt).trans ra1, (hb.cell (p := ⟨cb, q, none⟩) hrc.lt).trans ra0⟩
      refine ⟨_, rfl, hS1, ?_⟩
      clear hS0
      have hS0 := hS1
      clear hK a; intro a hK
      refine ktg hK (i := 19) 655 8 644 rfl (by kernel_rfl) (by kernel_rfl) (by kernel_rfl) (fun _ _ _ h => h) hS0 rfl (by decide) rfl (by kernel_rfl) rfl (decide_eq_false (fun h => h rfl)) (fun ρ hρ w' hw' => r_neq21 _ _ rfl (hρ _ _ rfl) (hρ _ _ rfl)) ?_
      clear hK a; intro a hK
      refine kt hK (i := 20) 656 rfl (by kernel_rfl) (by kernel_rfl) (by kernel_rfl) (fun _ _ _ h => h) hS0 rfl (by decide) rfl (fun ρ hρ w' hw' => r_pickE _ _ _ rfl (decide_eq_false (fun h => h rfl)) (hρ _ _ rfl) (hρ _ _ rfl)) ?_
      clear hK a; intro a hK
      refine wpAnyH_done (by kernel_rfl) ?_ _
      show Code.wp Yba.prog _ _ _ _
      refine wp_cond_false (by rw [hK.rho (.tmp 656) _ rfl]; exact congrArg Value.bool (decide_eq_false (fun h => h rfl))) ?_
      refine wp_skip ?_
      show Code.wp Yba.prog _ _ _ _
      refine wp_region_lit ?_
      refine kl hK 630 rfl (by decide) rfl (fun ρ hρ => r_mv _ rfl (hρ _ _ rfl)) ?_
      clear hK a; intro a hK
      refine kl hK 631 rfl (by decide) rfl (fun ρ hρ => r_inc21 _ rfl (by omega) (hρ _ _ rfl) (hρ _ _ rfl)) ?_
      clear hK a; intro a hK
      refine kl hK 79 rfl (by decide) rfl (fun ρ hρ => r_as _ rfl (hρ _ _ rfl)) ?_
      clear hK a; intro a hK
      refine wpList_nil ?_
      exact hR (I.N - (q + 1)) _ _ (by omega) ⟨q + 1, hql, rfl, hK.sub ⟨rfl, rfl, rfl, rfl, rfl, rfl, rfl, rfl, rfl, rfl, rfl, rfl, rfl, rfl, rfl, rfl, rfl, rfl, rfl, rfl, rfl, rfl, rfl, rfl, trivial⟩, hE.below hb⟩
  · have hqe : q = I.N := by omega
    refine wp_cond_false (by rw [hK.rho (.tmp 629) _ rfl]; exact congrArg Value.bool (decide_eq_false (by omega))) ?_
    refine wp_exit ?_
    exact hKK _ _ (hK.sub ⟨rfl, rfl, rfl, rfl, rfl, rfl, rfl, rfl, rfl, rfl, rfl, rfl, rfl, rfl, rfl, rfl, rfl, rfl, rfl, rfl, rfl, rfl, rfl, trivial⟩) hE

set_option maxRecDepth 100000 in
set_option maxHeartbeats 1000000 in
theorem y41 (I : IN) (w0 : World) (F : Nat → Prop) (arB : Nat) (st : ST) (B : Nat) (e0 l0 : Value) (hB0 hc0 : Nat) (r0 : Value) (mB r0B fB qB : Nat) (xV : Value) (hF : I.Fine) (hll : I.ll ≤ 4096) (hfin : (fin I.D (I.R0, none)).1 = I.EF) (hno : anyk I.D I.R0 I.N = false → (fin I.D (I.R0, none)).2 = none) (hyes : anyk I.D I.R0 I.N = true → ∃ Qf, (fin I.D (I.R0, none)).2 = some Qf ∧ ∀ q, q < I.N → Qf q = qk I.D I.R0 I.N q) (hnext : ∀ a w, Kn 706 ((62, xV) :: (56, .bool (anyk I.D I.R0 I.N)) :: (55, .slice (some ⟨qB, 0, none⟩) I.N I.N) :: (54, .slice (some ⟨fB, 0, none⟩) I.N I.N) :: (51, .slice (some ⟨r0B, 0, none⟩) I.N I.N) :: (50, ptr mB) :: (46, .int .i32 (I.D.asp : Nat)) :: (45, ptr arB) :: (44, r0) :: (43, .slice (some ⟨hB0, 0, none⟩) I.N hc0) :: (42, l0) :: (41, e0) :: (21, .int .i32 I.N) :: LA I) a → TL I w0 F arB st B e0 l0 hB0 hc0 r0 mB r0B fB qB xV w → Code.wp Yba.prog (nav [1, 1, 1, 1, 1, 1, 1, 1, 1, 1, 1, 1, 1, 1, 1, 1, 1, 1, 1, 1, 1, 1, 1, 1, 1, 1, 1, 1, 1, 1, 1, 1, 1, 1, 1, 1, 1, 1, 1, 1, 1, 1] (Yba.f3.body.getD .skip)) (bodyPost Yba.prog Yba.f3 (Post w0)) a w) (a : Act) (w : World) (hK : Kn 706 ((62, xV) :: (56, .bool (anyk I.D I.R0 I.N)) :: (55, .slice (some ⟨qB, 0, none⟩) I.N I.N) :: (54, .slice (some ⟨fB, 0, none⟩) I.N I.N) :: (51, .slice (some ⟨r0B, 0, none⟩) I.N I.N) :: (50, ptr mB) :: (46, .int .i32 (I.D.asp : Nat)) :: (45, ptr arB) :: (44, r0) :: (43, .slice (some ⟨hB0, 0, none⟩) I.N hc0) :: (42, l0) :: (41, e0) :: (21, .int .i32 I.N) :: LA I) a) (hE : TL I w0 F arB st B e0 l0 hB0 hc0 r0 mB r0B fB qB xV w) :
    Code.wp Yba.prog (nav [1, 1, 1, 1, 1, 1, 1, 1, 1, 1, 1, 1, 1, 1, 1, 1, 1, 1, 1, 1, 1, 1, 1, 1, 1, 1, 1, 1, 1, 1, 1, 1, 1, 1, 1, 1, 1, 1, 1, 1, 1] (Yba.f3.body.getD .skip)) (bodyPost Yba.prog Yba.f3 (Post w0)) a w := by
  have hN := I.N_le
  have hA := hE.arb hfin
  conv => arg 2; whnf
  refine wp_seq ?_
  refine wp_seq ?_
  refine wp_region_lit ?_
  refine kl hK 595 rfl (by decide) rfl (fun ρ hρ => r_mv _ rfl (hρ _ _ rfl)) ?_
  clear hK a; intro a hK
  refine kl hK 596 rfl (by decide) rfl (fun ρ hρ => r_not _ rfl (hρ _ _ rfl)) ?_
  clear hK a; intro a hK
  refine wpList_nil ?_
  show Code.wp Yba.prog _ _ _ _
  cases han : anyk I.D I.R0 I.N
  · have hQn := hno han
    obtain ⟨hcV, hiV⟩ : st.cV = .slice none 0 0 ∧ st.iV = .slice none 0 0 := by
      rcases hA.ar.cc with ⟨_, h2, h3⟩ | ⟨Q', b, c, h1, _⟩
      · exact ⟨h2, h3⟩
      · rw [hQn] at h1; cases h1
    have cc := hA.ar.cells.2.2.2.1
    have ci := hA.ar.cells.2.2.2.2.1
    rw [hcV] at cc
    rw [hiV] at ci
    refine wp_cond_true (by rw [hK.rho (.tmp 596) _ rfl]; exact congrArg Value.bool (by rw [han]; rfl)) ?_
    refine wp_seq ?_
    refine wp_region_lit ?_
    refine kl hK 597 rfl (by decide) rfl (fun ρ hρ => r_mv _ rfl (hρ _ _ rfl)) ?_
    clear hK a; intro a hK
    refine kl hK 598 rfl (by decide) rfl (fun ρ hρ => r_nil _ rfl (hρ _ _ rfl)) ?_
    clear hK a; intro a hK
    refine kl hK 599 rfl (by decide) rfl (fun ρ hρ => r_fo56_13 _ rfl (hρ _ _ rfl)) ?_
    clear hK a; intro a hK
    refine kl hK 600 rfl (by decide) rfl (fun ρ hρ => r_ld33 _ rfl (hρ _ _ rfl) cc) ?_
    clear hK a; intro a hK
    refine kl hK 601 rfl (by decide) rfl (fun ρ hρ => r_nnil 33 21 Yba.underlying33 _ rfl (hρ _ _ rfl) (hρ _ _ rfl)) ?_
    clear hK a; intro a hK
    refine kl hK 602 rfl (by decide) rfl (fun ρ hρ => r_mv _ rfl (hρ _ _ rfl)) ?_
    clear hK a; intro a hK
    refine klg hK 603 5 602 rfl (by decide) rfl (by kernel_rfl) rfl rfl (fun ρ hρ => r_mv _ rfl (hρ _ _ rfl)) ?_
    clear hK a; intro a hK
    refine klg hK 604 5 602 rfl (by decide) rfl (by kernel_rfl) rfl rfl (fun ρ hρ => r_nil _ rfl (hρ _ _ rfl)) ?_
    clear hK a; intro a hK
    refine klg hK 605 5 602 rfl (by decide) rfl (by kernel_rfl) rfl rfl (fun ρ hρ => r_fo56_14 _ rfl (hρ _ _ rfl)) ?_
    clear hK a; intro a hK
    refine klg hK 606 5 602 rfl (by decide) rfl (by kernel_rfl) rfl rfl (fun ρ hρ => r_ld33 _ rfl (hρ _ _ rfl) ci) ?_
    clear hK a; intro a hK
    refine klg hK 607 5 602 rfl (by decide) rfl (by kernel_rfl) rfl rfl (fun ρ hρ => r_nnil 33 21 Yba.underlying33 _ rfl (hρ _ _ rfl) (hρ _ _ rfl)) ?_
    clear hK a; intro a hK
    refine kl hK 608 rfl (by decide) rfl (fun ρ hρ => r_pickE _ _ _ rfl rfl (hρ _ _ rfl) (hρ _ _ rfl)) ?_
    clear hK a; intro a hK
    refine wpList_nil ?_
    show Code.wp Yba.prog _ _ _ _
    refine wp_cond_false (hK.rho (.tmp 608) _ rfl) ?_
    refine wp_skip ?_
    show Code.wp Yba.prog _ _ _ _
    exact hnext a w (hK.sub ⟨rfl, rfl, rfl, rfl, rfl, rfl, rfl, rfl, rfl, rfl, rfl, rfl, rfl, rfl, rfl, rfl, rfl, rfl, rfl, rfl, rfl, rfl, rfl, trivial⟩) hE
  · obtain ⟨Qf, hQs, hQf⟩ := hyes han
    obtain ⟨cb, ib, hcV, hiV, hrc, hri⟩ : ∃ b c, st.cV = .slice (some ⟨b, 0, none⟩) I.N I.N ∧ st.iV = .slice (some ⟨c, 0, none⟩) I.N I.N ∧ w.rowIs b 21 I.N (fun q => .int .i32 (if Qf q = true then I.D.cval q else 0)) ∧ w.rowIs c 21 I.N (fun q => .int .i32 (if Qf q = true then 1 else 0)) := by
      rcases hA.ar.cc with ⟨h1, _⟩ | ⟨Q', b, c, h1, h2, h3, h4, h5, h6⟩
      · rw [hQs] at h1; cases h1
      · rw [hQs] at h1; cases h1
        exact ⟨b, c, h2, h3, h5, h6⟩
    have cc := hA.ar.cells.2.2.2.1
    have ci := hA.ar.cells.2.2.2.2.1
    rw [hcV] at cc
    rw [hiV] at ci
    refine wp_cond_false (by rw [hK.rho (.tmp 596) _ rfl]; exact congrArg Value.bool (by rw [han]; rfl)) ?_
    refine wp_seq ?_
    refine wp_seq ?_
    refine wp_region_lit ?_
    refine kl hK 609 rfl (by decide) rfl (fun ρ hρ => r_mv _ rfl (hρ _ _ rfl)) ?_
    clear hK a; intro a hK
    refine kl hK 610 rfl (by decide) rfl (fun ρ hρ => r_nil _ rfl (hρ _ _ rfl)) ?_
    clear hK a; intro a hK
    refine kl hK 611 rfl (by decide) rfl (fun ρ hρ => r_fo56_13 _ rfl (hρ _ _ rfl)) ?_
    clear hK a; intro a hK
    refine kl hK 612 rfl (by decide) rfl (fun ρ hρ => r_ld33 _ rfl (hρ _ _ rfl) cc) ?_
    clear hK a; intro a hK
    refine kl hK 613 rfl (by decide) rfl (fun ρ hρ => r_len33 _ rfl (hρ _ _ rfl)) ?_
    clear hK a; intro a hK
    refine kl hK 614 rfl (by decide) rfl (fun ρ hρ => r_mv _ rfl (hρ _ _ rfl)) ?_
    clear hK a; intro a hK
    refine kl hK 615 rfl (by decide) rfl (fun ρ hρ => r_cn21_3 _ rfl (by omega) (hρ _ _ rfl)) ?_
    clear hK a; intro a hK
    refine kl hK 616 rfl (by decide) rfl (fun ρ hρ => r_neq3 _ _ rfl (hρ _ _ rfl) (hρ _ _ rfl)) ?_
    clear hK a; intro a hK
    refine kl hK 617 rfl (by decide) rfl (fun ρ hρ => r_mv _ rfl (hρ _ _ rfl)) ?_
    clear hK a; intro a hK
    refine klg hK 618 8 617 rfl (by decide) rfl (by kernel_rfl) rfl (decide_eq_false (fun h => h rfl)) (fun ρ hρ => r_mv _ rfl (hρ _ _ rfl)) ?_
    clear hK a; intro a hK
    refine klg hK 619 8 617 rfl (by decide) rfl (by kernel_rfl) rfl (decide_eq_false (fun h => h rfl)) (fun ρ hρ => r_nil _ rfl (hρ _ _ rfl)) ?_
    clear hK a; intro a hK
    refine klg hK 620 8 617 rfl (by decide) rfl (by kernel_rfl) rfl (decide_eq_false (fun h => h rfl)) (fun ρ hρ => r_fo56_14 _ rfl (hρ _ _ rfl)) ?_
    clear hK a; intro a hK
    refine klg hK 621 8 617 rfl (by decide) rfl (by kernel_rfl) rfl (decide_eq_false (fun h => h rfl)) (fun ρ hρ => r_ld33 _ rfl (hρ _ _ rfl) ci) ?_
    clear hK a; intro a hK
    refine klg hK 622 8 617 rfl (by decide) rfl (by kernel_rfl) rfl (decide_eq_false (fun h => h rfl)) (fun ρ hρ => r_len33 _ rfl (hρ _ _ rfl)) ?_
    clear hK a; intro a hK
    refine klg hK 623 8 617 rfl (by decide) rfl (by kernel_rfl) rfl (decide_eq_false (fun h => h rfl)) (fun ρ hρ => r_mv _ rfl (hρ _ _ rfl)) ?_
    clear hK a; intro a hK
    refine klg hK 624 8 617 rfl (by decide) rfl (by kernel_rfl) rfl (decide_eq_false (fun h => h rfl)) (fun ρ hρ => r_cn21_3 _ rfl (by omega) (hρ _ _ rfl)) ?_
    clear hK a; intro a hK
    refine klg hK 625 8 617 rfl (by decide) rfl (by kernel_rfl) rfl (decide_eq_false (fun h => h rfl)) (fun ρ hρ => r_neq3 _ _ rfl (hρ _ _ rfl) (hρ _ _ rfl)) ?_
    clear hK a; intro a hK
    refine kl hK 626 rfl (by decide) rfl (fun ρ hρ => r_pickE _ _ _ rfl (decide_eq_false (fun h => h rfl)) (hρ _ _ rfl) (hρ _ _ rfl)) ?_
    clear hK a; intro a hK
    refine wpList_nil ?_
    show Code.wp Yba.prog _ _ _ _
    refine wp_cond_false (by rw [hK.rho (.tmp 626) _ rfl]; exact congrArg Value.bool (decide_eq_false (fun h => h rfl))) ?_
    refine wp_skip ?_
    show Code.wp Yba.prog _ _ _ _
    refine wp_seq ?_
    refine wp_region_lit ?_
    refine kl hK 79 rfl (by decide) rfl (fun ρ hρ => r_as _ rfl (hρ _ _ rfl)) ?_
    clear hK a; intro a hK
    refine wpList_nil ?_
    show Code.wp Yba.prog _ _ _ _
    refine wp_then (lp26 I w0 F arB st B e0 l0 hB0 hc0 r0 mB r0B fB qB xV hF hll hfin Qf hQs hQf _ _ ?_ a w (hK.sub ⟨rfl, rfl, rfl, rfl, rfl, rfl, rfl, rfl, rfl, rfl, rfl, rfl, rfl, rfl, rfl, rfl, rfl, rfl, rfl, rfl, rfl, rfl, rfl, rfl, trivial⟩) hE)
    clear hK a
    intro a w1 hK hE1
    exact hnext a w1 (hK.sub ⟨rfl, rfl, rfl, rfl, rfl, rfl, rfl, rfl, rfl, rfl, rfl, rfl, rfl, rfl, rfl, rfl, rfl, rfl, rfl, rfl, rfl, rfl, rfl, trivial⟩) hE1

theorem pair_cells {w : World} {b n : Nat} {x y : Nat → Int} (h : ∀ i, i < n → w.cell? ⟨b, i * 2, none⟩ = some (.int .i32 (x i)) ∧ w.cell? ⟨b, i * 2 + 1, none⟩ = some (.int .i32 (y i))) : ∀ k, k < n * 2 → w.cell? ⟨b, k, none⟩ = some (.int .i32 (if k % 2 = 0 then x (k / 2) else y (k / 2))) := fun k hk => by
  obtain ⟨h1, h2⟩ := h (k / 2) (by omega)
  by_cases e : k % 2 = 0
  · rw [if_pos e, ← h1, show k / 2 * 2 = k by omega]
  · rw [if_neg e, ← h2, show k / 2 * 2 + 1 = k by omega]
def hz (D : PD) (k : Nat) : Int := if k % 4 = 0 then (D.hto (k / 4) : Nat) else if k % 4 = 1 then D.hpos (k / 4) else if k % 4 = 2 then D.hcnt (k / 4) else D.hat (k / 4)
theorem hand_cells {D : PD} {w : World} {b : Nat} (h : HandAt D w b) : ∀ k, k < D.N * 4 → w.cell? ⟨b, k, none⟩ = some (.int .i32 (hz D k)) := fun k hk => by
  obtain ⟨h0, h1, h2, h3⟩ := h (k / 4) (by omega)
  unfold hz
  by_cases e : k % 4 = 0
  · rw [if_pos e, ← h0, show k / 4 * 4 = k by omega]
  · rw [if_neg e]
    by_cases e1 : k % 4 = 1
    · rw [if_pos e1, ← h1, show k / 4 * 4 + 1 = k by omega]
    · rw [if_neg e1]
      by_cases e2 : k % 4 = 2
      · rw [if_pos e2, ← h2, show k / 4 * 4 + 2 = k by omega]
      · rw [if_neg e2, ← h3, show k / 4 * 4 + 3 = k by omega]


set_option maxRecDepth 100000 in
set_option maxHeartbeats 1000000 in
theorem y42 (I : IN) (w0 : World) (F : Nat → Prop) (arB : Nat) (st : ST) (B : Nat) (e0 l0 : Value) (hB0 hc0 : Nat) (r0 : Value) (mB r0B fB qB : Nat) (xV : Value) (hF : I.Fine) (hll : I.ll ≤ 4096) (hfin : (fin I.D (I.R0, none)).1 = I.EF) (a : Act) (w : World) (hK : Kn 706 ((62, xV) :: (56, .bool (anyk I.D I.R0 I.N)) :: (55, .slice (some ⟨qB, 0, none⟩) I.N I.N) :: (54, .slice (some ⟨fB, 0, none⟩) I.N I.N) :: (51, .slice (some ⟨r0B, 0, none⟩) I.N I.N) :: (50, ptr mB) :: (46, .int .i32 (I.D.asp : Nat)) :: (45, ptr arB) :: (44, r0) :: (43, .slice (some ⟨hB0, 0, none⟩) I.N hc0) :: (42, l0) :: (41, e0) :: (21, .int .i32 I.N) :: LA I) a) (hE : TL I w0 F arB st B e0 l0 hB0 hc0 r0 mB r0B fB qB xV w) :
    Code.wp Yba.prog (nav [1, 1, 1, 1, 1, 1, 1, 1, 1, 1, 1, 1, 1, 1, 1, 1, 1, 1, 1, 1, 1, 1, 1, 1, 1, 1, 1, 1, 1, 1, 1, 1, 1, 1, 1, 1, 1, 1, 1, 1, 1, 1] (Yba.f3.body.getD .skip)) (bodyPost Yba.prog Yba.f3 (Post w0)) a w := by
  have hN := I.N_le
  have hN1 := I.N_pos
  have hA := hE.arb hfin
  have hck := hA.ar.ck
  have heo : I.D.eo I.ll ≤ I.ll * 20 := eo_bound hN I.ll
  have hc4 := hE.fq.fm.fx.c4
  obtain ⟨ea, ec, c3, -, -, -, e5⟩ := hck.ent
  obtain ⟨la, lcc, c4, -, -, -, l5⟩ := hck.lev
  obtain ⟨hb, hcc, c6, -, hbl, h5⟩ := hck.hand
  have c16 := hA.ar.cells.2.2.1
  obtain ⟨ea', ec', hev⟩ : ∃ a c, e0 = .slice a (I.D.eo I.ll) c := by
    rcases own_slice hc4.fe with ⟨h1, h2⟩ | ⟨g, cap, h2, -, -⟩
    · exact ⟨none, 0, by rw [h2]; exact h1⟩
    · exact ⟨_, _, h2⟩
  obtain ⟨la', lc', hlv⟩ : ∃ a c, l0 = .slice a I.ll c := by
    rcases own_slice hc4.fl with ⟨h1, h2⟩ | ⟨g, cap, h2, -, -⟩
    · exact ⟨none, 0, by rw [h2]; exact h1⟩
    · exact ⟨_, _, h2⟩
  subst hev hlv
  have hen : ∀ i, i < I.D.eo I.ll → ∃ e, (I.D.ent I.ll)[i]? = some e := fun i hi => ⟨_, List.getElem?_eq_getElem hi⟩
  have E1 : 0 < I.D.eo I.ll → ∃ b1 b2, ea = some ⟨b1, 0, none⟩ ∧ ea' = some ⟨b2, 0, none⟩ ∧ b1 < w.heap.size ∧ b2 < w.heap.size ∧ ∀ k, k < I.D.eo I.ll * 2 → w.cell? ⟨b1, k, none⟩ = some (.int .i32 (if k % 2 = 0 then (((I.D.ent I.ll)[k / 2]?).getD (0, 0)).1 else (((I.D.ent I.ll)[k / 2]?).getD (0, 0)).2)) ∧ w.cell? ⟨b2, k, none⟩ = some (.int .i32 (if k % 2 = 0 then (((I.D.ent I.ll)[k / 2]?).getD (0, 0)).1 else (((I.D.ent I.ll)[k / 2]?).getD (0, 0)).2)) := fun h0 => by
    obtain ⟨e, he⟩ := hen 0 h0
    obtain ⟨b1, rfl, -, hl1, -, -⟩ := e5 0 e he
    obtain ⟨g, cap, hv⟩ : ∃ g cap, (Value.slice ea' (I.D.eo I.ll) ec') = .slice (some ⟨g, 0, none⟩) (I.D.eo I.ll) cap := by
      rcases own_slice hc4.fe with ⟨_, h2⟩ | ⟨g, cap, h2, -, -⟩
      · omega
      · exact ⟨g, cap, h2⟩
    cases hv
    refine ⟨b1, g, rfl, rfl, hl1, (hc4.fe.lt g rfl).2, fun k hk => ⟨?_, ?_⟩⟩
    · refine pair_cells (n := I.D.eo I.ll) (x := fun i => (((I.D.ent I.ll)[i]?).getD (0, 0)).1) (y := fun i => (((I.D.ent I.ll)[i]?).getD (0, 0)).2) (fun i hi => ?_) k hk
      obtain ⟨e, he⟩ := hen i hi
      obtain ⟨b, hb', -, -, q0, q1⟩ := e5 i e he
      cases hb'
      rw [he]
      exact ⟨q0, q1⟩
    · refine pair_cells (n := I.D.eo I.ll) (x := fun i => (((I.D.ent I.ll)[i]?).getD (0, 0)).1) (y := fun i => (((I.D.ent I.ll)[i]?).getD (0, 0)).2) (fun i hi => ?_) k hk
      obtain ⟨e, he⟩ := hen i hi
      obtain ⟨q0, q1⟩ := entL_get _ i e he
      rw [he]
      exact ⟨(own_cell hc4.fe q0).1, (own_cell hc4.fe q1).1⟩
  have E2 : 0 < I.ll → ∃ b1 b2, la = some ⟨b1, 0, none⟩ ∧ la' = some ⟨b2, 0, none⟩ ∧ b1 < w.heap.size ∧ b2 < w.heap.size ∧ ∀ k, k < I.ll * 2 → w.cell? ⟨b1, k, none⟩ = some (.int .i32 (if k % 2 = 0 then (I.D.eo (k / 2) : Nat) else (I.D.eo (k / 2 + 1) : Nat))) ∧ w.cell? ⟨b2, k, none⟩ = some (.int .i32 (if k % 2 = 0 then (I.D.eo (k / 2) : Nat) else (I.D.eo (k / 2 + 1) : Nat))) := fun h0 => by
    obtain ⟨b1, rfl, -, hl1, -, -⟩ := l5 0 h0
    obtain ⟨g, cap, hv⟩ : ∃ g cap, (Value.slice la' I.ll lc') = .slice (some ⟨g, 0, none⟩) I.ll cap := by
      rcases own_slice hc4.fl with ⟨_, h2⟩ | ⟨g, cap, h2, -, -⟩
      · omega
      · exact ⟨g, cap, h2⟩
    cases hv
    refine ⟨b1, g, rfl, rfl, hl1, (hc4.fl.lt g rfl).2, fun k hk => ⟨?_, ?_⟩⟩
    · refine pair_cells (n := I.ll) (x := fun i => (I.D.eo i : Nat)) (y := fun i => (I.D.eo (i + 1) : Nat)) (fun i hi => ?_) k hk
      obtain ⟨b, hb', -, -, q0, q1⟩ := l5 i hi
      cases hb'
      exact ⟨q0, q1⟩
    · refine pair_cells (n := I.ll) (x := fun i => (I.D.eo i : Nat)) (y := fun i => (I.D.eo (i + 1) : Nat)) (fun i hi => ?_) k hk
      obtain ⟨q0, q1⟩ := levL_get I.D I.ll i hi
      exact ⟨(own_cell hc4.fl q0).1, (own_cell hc4.fl q1).1⟩
  conv => arg 2; whnf
  refine wp_seq ?_
  refine wp_region_lit ?_
  refine kl hK 675 rfl (by decide) rfl (fun ρ hρ => r_mv _ rfl (hρ _ _ rfl)) ?_
  clear hK a; intro a hK
  refine kl hK 676 rfl (by decide) rfl (fun ρ hρ => r_nil _ rfl (hρ _ _ rfl)) ?_
  clear hK a; intro a hK
  refine kl hK 677 rfl (by decide) rfl (fun ρ hρ => r_fo56_1 _ rfl (hρ _ _ rfl)) ?_
  clear hK a; intro a hK
  refine kl hK 678 rfl (by decide) rfl (fun ρ hρ => r_fa53_0 _ rfl (hρ _ _ rfl)) ?_
  clear hK a; intro a hK
  refine kl hK 679 rfl (by decide) rfl (fun ρ hρ => r_ld31 _ rfl (hρ _ _ rfl) c3) ?_
  clear hK a; intro a hK
  refine kl hK 680 rfl (by decide) rfl (fun ρ hρ => r_mv _ rfl (hρ _ _ rfl)) ?_
  clear hK a; intro a hK
  refine kc hK 681 rfl (by decide) rfl (fun ρ hρ => r_call13 _ _ rfl (hρ _ _ rfl) (hρ _ _ rfl) (hρ _ _ rfl)) (equal13 ea ea' (I.D.eo I.ll) ec ec' (by omega) _ w E1) ?_
  rintro e w1 ⟨rfl, hb1⟩
  refine ⟨_, rfl, ?_⟩
  clear hK a; intro a hK
  have d4 := (hb1.cell (p := ⟨arB, 4, none⟩) hA.ar.arow).trans c4
  have E2' : 0 < I.ll → ∃ b1 b2, la = some ⟨b1, 0, none⟩ ∧ la' = some ⟨b2, 0, none⟩ ∧ b1 < w1.heap.size ∧ b2 < w1.heap.size ∧ ∀ k, k < I.ll * 2 → w1.cell? ⟨b1, k, none⟩ = some (.int .i32 (if k % 2 = 0 then (I.D.eo (k / 2) : Nat) else (I.D.eo (k / 2 + 1) : Nat))) ∧ w1.cell? ⟨b2, k, none⟩ = some (.int .i32 (if k % 2 = 0 then (I.D.eo (k / 2) : Nat) else (I.D.eo (k / 2 + 1) : Nat))) := fun h0 => by
    obtain ⟨b1, b2, h1, h2, h3, h4, h5⟩ := E2 h0
    exact ⟨b1, b2, h1, h2, Nat.lt_of_lt_of_le h3 hb1.size, Nat.lt_of_lt_of_le h4 hb1.size, fun k hk => ⟨(hb1.cell (p := ⟨b1, k, none⟩) h3).trans (h5 k hk).1, (hb1.cell (p := ⟨b2, k, none⟩) h4).trans (h5 k hk).2⟩⟩
  refine kl hK 682 rfl (by decide) rfl (fun ρ hρ => r_mv _ rfl (hρ _ _ rfl)) ?_
  clear hK a; intro a hK
  refine klg hK 683 7 682 rfl (by decide) rfl (by kernel_rfl) rfl rfl (fun ρ hρ => r_mv _ rfl (hρ _ _ rfl)) ?_
  clear hK a; intro a hK
  refine klg hK 684 7 682 rfl (by decide) rfl (by kernel_rfl) rfl rfl (fun ρ hρ => r_nil _ rfl (hρ _ _ rfl)) ?_
  clear hK a; intro a hK
  refine klg hK 685 7 682 rfl (by decide) rfl (by kernel_rfl) rfl rfl (fun ρ hρ => r_fo56_1 _ rfl (hρ _ _ rfl)) ?_
  clear hK a; intro a hK
  refine klg hK 686 7 682 rfl (by decide) rfl (by kernel_rfl) rfl rfl (fun ρ hρ => r_fa53_1 _ rfl (hρ _ _ rfl)) ?_
  clear hK a; intro a hK
  refine klg hK 687 7 682 rfl (by decide) rfl (by kernel_rfl) rfl rfl (fun ρ hρ => r_ld32 _ rfl (hρ _ _ rfl) d4) ?_
  clear hK a; intro a hK
  refine klg hK 688 7 682 rfl (by decide) rfl (by kernel_rfl) rfl rfl (fun ρ hρ => r_mv _ rfl (hρ _ _ rfl)) ?_
  clear hK a; intro a hK
  refine kcg hK 689 7 682 rfl (by decide) rfl (by kernel_rfl) rfl rfl (fun ρ hρ => r_call14 _ _ rfl (hρ _ _ rfl) (hρ _ _ rfl) (hρ _ _ rfl)) (equal14 la la' I.ll lcc lc' (by omega) _ w1 E2') ?_
  rintro e w2 ⟨rfl, hb2⟩
  refine ⟨_, rfl, ?_⟩
  clear hK a; intro a hK
  have hb12 := bel_trans hb1 hb2
  have d6 := (hb12.cell (p := ⟨arB, 6, none⟩) hA.ar.arow).trans c6
  have hfl := (hc4.fh.lt hB0 rfl).2
  have E3 : 0 < I.N → ∃ b1 b2, some (⟨hb, 0, none⟩ : Addr) = some ⟨b1, 0, none⟩ ∧ some (⟨hB0, 0, none⟩ : Addr) = some ⟨b2, 0, none⟩ ∧ b1 < w2.heap.size ∧ b2 < w2.heap.size ∧ ∀ k, k < I.N * 4 → w2.cell? ⟨b1, k, none⟩ = some (.int .i32 (hz I.D k)) ∧ w2.cell? ⟨b2, k, none⟩ = some (.int .i32 (hz I.D k)) := fun _ => ⟨hb, hB0, rfl, rfl, Nat.lt_of_lt_of_le hbl hb12.size, Nat.lt_of_lt_of_le hfl hb12.size, fun k hk => ⟨(hb12.cell (p := ⟨hb, k, none⟩) hbl).trans (hand_cells h5 k hk), (hb12.cell (p := ⟨hB0, k, none⟩) hfl).trans (hand_cells (handAt_own (D := I.D) hc4.fh) k hk)⟩⟩
  refine kl hK 690 rfl (by decide) rfl (fun ρ hρ => r_pickT _ _ _ rfl rfl (hρ _ _ rfl) (hρ _ _ rfl)) ?_
  clear hK a; intro a hK
  refine kl hK 691 rfl (by decide) rfl (fun ρ hρ => r_mv _ rfl (hρ _ _ rfl)) ?_
  clear hK a; intro a hK
  refine klg hK 692 16 691 rfl (by decide) rfl (by kernel_rfl) rfl rfl (fun ρ hρ => r_mv _ rfl (hρ _ _ rfl)) ?_
  clear hK a; intro a hK
  refine klg hK 693 16 691 rfl (by decide) rfl (by kernel_rfl) rfl rfl (fun ρ hρ => r_nil _ rfl (hρ _ _ rfl)) ?_
  clear hK a; intro a hK
  refine klg hK 694 16 691 rfl (by decide) rfl (by kernel_rfl) rfl rfl (fun ρ hρ => r_fo56_2 _ rfl (hρ _ _ rfl)) ?_
  clear hK a; intro a hK
  refine klg hK 695 16 691 rfl (by decide) rfl (by kernel_rfl) rfl rfl (fun ρ hρ => r_ld25 _ rfl (hρ _ _ rfl) d6) ?_
  clear hK a; intro a hK
  refine klg hK 696 16 691 rfl (by decide) rfl (by kernel_rfl) rfl rfl (fun ρ hρ => r_mv _ rfl (hρ _ _ rfl)) ?_
  clear hK a; intro a hK
  refine kcg hK 697 16 691 rfl (by decide) rfl (by kernel_rfl) rfl rfl (fun ρ hρ => r_call15 _ _ rfl (hρ _ _ rfl) (hρ _ _ rfl) (hρ _ _ rfl)) (equal15 (some ⟨hb, 0, none⟩) (some ⟨hB0, 0, none⟩) I.N hcc hc0 (by omega) _ w2 E3) ?_
  rintro e w3 ⟨rfl, hb3⟩
  refine ⟨_, rfl, ?_⟩
  clear hK a; intro a hK
  have hb13 := bel_trans hb12 hb3
  have d16 := (hb13.cell (p := ⟨arB, 16, none⟩) hA.ar.arow).trans c16
  refine kl hK 698 rfl (by decide) rfl (fun ρ hρ => r_pickT _ _ _ rfl rfl (hρ _ _ rfl) (hρ _ _ rfl)) ?_
  clear hK a; intro a hK
  refine kl hK 699 rfl (by decide) rfl (fun ρ hρ => r_mv _ rfl (hρ _ _ rfl)) ?_
  clear hK a; intro a hK
  refine klg hK 700 24 699 rfl (by decide) rfl (by kernel_rfl) rfl rfl (fun ρ hρ => r_mv _ rfl (hρ _ _ rfl)) ?_
  clear hK a; intro a hK
  refine klg hK 701 24 699 rfl (by decide) rfl (by kernel_rfl) rfl rfl (fun ρ hρ => r_nil _ rfl (hρ _ _ rfl)) ?_
  clear hK a; intro a hK
  refine klg hK 702 24 699 rfl (by decide) rfl (by kernel_rfl) rfl rfl (fun ρ hρ => r_fo56_12 _ rfl (hρ _ _ rfl)) ?_
  clear hK a; intro a hK
  refine klg hK 703 24 699 rfl (by decide) rfl (by kernel_rfl) rfl rfl (fun ρ hρ => r_ld21 _ rfl (hρ _ _ rfl) d16) ?_
  clear hK a; intro a hK
  refine klg hK 704 24 699 rfl (by decide) rfl (by kernel_rfl) rfl rfl (fun ρ hρ => r_eql21 _ _ rfl (hρ _ _ rfl) (hρ _ _ rfl)) ?_
  clear hK a; intro a hK
  refine kl hK 705 rfl (by decide) rfl (fun ρ hρ => r_pickT _ _ _ rfl rfl (hρ _ _ rfl) (hρ _ _ rfl)) ?_
  clear hK a; intro a hK
  refine kl hK 20 rfl (by decide) rfl (fun ρ hρ => r_as _ rfl (hρ _ _ rfl)) ?_
  clear hK a; intro a hK
  refine wpList_nil ?_
  show Code.wp Yba.prog _ _ _ _
  refine wp_ret ?_
  try simp only [Exit.inBlock, Exit.then]
  exact kretL hK rfl (bel_trans hE.fq.fm.fx.bel hb13)
end Go.Proofs.Ybulkexuo
