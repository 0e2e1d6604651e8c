import Derived.Test.YbulkeyzgE3
namespace Go.Proofs.Ybulkeyzg
open Go.RowKit

theorem wp_then {P : Program} {c : Code} {Q : Exit → Act → World → Prop} {a : Act} {w : World} (h : c.wp P (Exit.then (fun a w => Q .normal a w) Q) a w) : c.wp P Q a w := by
  have e : Exit.then (fun a w => Q .normal a w) Q = Q := by
    funext e a w
    cases e <;> rfl
  rwa [e] at h

set_option maxRecDepth 100000 in
set_option maxHeartbeats 1000000 in
theorem loop24 (I : Inp) (w0 : World) (lab : Lab) (A : Adr) (psB mbB tsB rsB : Nat) (B : MB) (ks vs : Nat → Value) (rqv wtv : Value) (β : Nat → Int) (t : Nat) (ht : t < I.D.nt) (hlen : (I.D.N I.σ0 I.lr t).kv.length ≤ 100000) (Q : Exit → Act → World → Prop) (K : Act → World → Prop) (hKK : ∀ a w, Kn 831 ((51, .int .i64 t) :: L3 I psB mbB tsB rsB B I.lr rqv wtv) a → FS I w0 lab w A psB mbB tsB rsB B ks vs rqv wtv β → K a w) (a : Act) (w : World) (hK : Kn 831 ((53, .int .i64 (0 : Nat)) :: (52, ptr (A.ta t)) :: (51, .int .i64 t) :: L3 I psB mbB tsB rsB B I.lr rqv wtv) a) (hS : FS I w0 lab w A psB mbB tsB rsB B ks vs rqv wtv β) :
    Code.wp Yba.prog (nav [1, 1, 1, 1, 1, 1, 1, 1, 1, 1, 1, 1, 1, 1, 1, 1, 1, 1, 1, 1, 1, 1, 1, 1, 0, 1, 0, 0, 1, 0, 0, 1, 1, 1, 1] (Yba.f3.body.getD .skip)) (Exit.then K Q) a w := by
  refine loop_n K (fun n a w => ∃ x, x ≤ (I.D.N I.σ0 I.lr t).kv.length ∧ n = (I.D.N I.σ0 I.lr t).kv.length - x ∧ Kn 831 ((53, .int .i64 (x : Nat)) :: (52, ptr (A.ta t)) :: (51, .int .i64 t) :: L3 I psB mbB tsB rsB B I.lr rqv wtv) a ∧ FS I w0 lab w A psB mbB tsB rsB B ks vs rqv wtv β) ⟨0, Nat.zero_le _, rfl, hK, hS⟩ ?_
  clear hK hS a w
  rintro n a w R ⟨x, hx, hn, hK, hS⟩ hR
  have c21 := hS.mod.r2.cell (i := t) ht
  obtain ⟨ka, kc, hks, hKA⟩ := (hS.mod.keys t ht).keysAt
  rw [hks] at c21
  refine wp_seq ?_
  refine wp_seq ?_
  refine wp_region_lit ?_
  refine kl hK 630 rfl (by decide) rfl (fun ρ hρ => r_move _ rfl (hρ _ _ rfl)) ?_
  clear hK a; intro a hK
  refine kl hK 631 rfl (by decide) rfl (fun ρ hρ => r_move _ rfl (hρ _ _ rfl)) ?_
  clear hK a; intro a hK
  refine kl hK 632 rfl (by decide) rfl (fun ρ hρ => r_move _ rfl (hρ _ _ rfl)) ?_
  clear hK a; intro a hK
  refine kl hK 633 rfl (by decide) rfl (fun ρ hρ => r_idx43 _ _ rfl ht (hρ _ _ rfl) (hρ _ _ rfl)) ?_
  clear hK a; intro a hK
  refine kl hK 634 rfl (by decide) rfl (fun ρ hρ => r_ld65 _ rfl (hρ _ _ rfl) c21) ?_
  clear hK a; intro a hK
  refine kl hK 635 rfl (by decide) rfl (fun ρ hρ => r_len65 _ rfl (hρ _ _ rfl)) ?_
  clear hK a; intro a hK
  refine kl hK 636 rfl (by decide) rfl (fun ρ hρ => r_lss3 _ _ rfl (hρ _ _ rfl) (hρ _ _ rfl)) ?_
  clear hK a; intro a hK
  refine wpList_nil ?_
  show Code.wp Yba.prog _ _ _ _
  by_cases hxl : x < (I.D.N I.σ0 I.lr t).kv.length
  · obtain ⟨e, he⟩ : ∃ e, (I.D.N I.σ0 I.lr t).kv[x]? = some e := ⟨_, List.getElem?_eq_getElem hxl⟩
    obtain ⟨g, hka, -, k0, k1, k2⟩ := hKA x e he
    rw [hka] at c21
    rw [show x * 3 = 0 + x * 3 from (Nat.zero_add _).symm] at k0 k1 k2
    have hT : Touch (fun _ => False) w (w.alloc (.cells #[.int .i64 e.1.1, .int .u8 e.1.2.1, .int .u8 e.1.2.2] 57)) := (Touch.refl _ _).alloc _
    have hS1 := hS.touch0 hT
    have hTk : Tmp lab (w.alloc (.cells #[.int .i64 e.1.1, .int .u8 e.1.2.1, .int .u8 e.1.2.2] 57)) w.heap.size [.int .i64 e.1.1, .int .u8 e.1.2.1, .int .u8 e.1.2.2] := Tmp.new hS.labs _ _
    have t0 := hTk.cell 0 _ rfl
    have t1 := hTk.cell 1 _ rfl
    have t2 := hTk.cell 2 _ rfl
    obtain ⟨-, -, c11, -⟩ := hS1.tcells ht
    have hp := (hS1.look ht he).1
    have cp := hS1.pcell hp
    refine wp_cond_true (by rw [hK.rho (.tmp 636) _ rfl, decide_eq_true hxl]) ?_
    refine wp_skip ?_
    show Code.wp Yba.prog _ _ _ _
    replace hK := hK.sub (M := (53, .int .i64 (x : Nat)) :: (52, ptr (A.ta t)) :: (51, .int .i64 t) :: L3 I psB mbB tsB rsB B I.lr rqv wtv) ⟨rfl, rfl, rfl, rfl, rfl, rfl, rfl, rfl, rfl, rfl, rfl, rfl, rfl, rfl, rfl, rfl, rfl, rfl, rfl, trivial⟩
    refine wp_seq ?_
    refine wp_block ?_
    refine wp_seq ?_
    refine wp_region_lit ?_
    refine kl hK 639 rfl (by decide) rfl (fun ρ hρ => r_move _ rfl (hρ _ _ rfl)) ?_
    clear hK a; intro a hK
    refine kl hK 640 rfl (by decide) rfl (fun ρ hρ => r_move _ rfl (hρ _ _ rfl)) ?_
    clear hK a; intro a hK
    refine kl hK 641 rfl (by decide) rfl (fun ρ hρ => r_idx43 _ _ rfl ht (hρ _ _ rfl) (hρ _ _ rfl)) ?_
    clear hK a; intro a hK
    refine kl hK 642 rfl (by decide) rfl (fun ρ hρ => r_ld65 _ rfl (hρ _ _ rfl) c21) ?_
    clear hK a; intro a hK
    refine kl hK 643 rfl (by decide) rfl (fun ρ hρ => r_move _ rfl (hρ _ _ rfl)) ?_
    clear hK a; intro a hK
    refine kl hK 644 rfl (by decide) rfl (fun ρ hρ => r_ix65 _ _ rfl hxl (hρ _ _ rfl) (hρ _ _ rfl)) ?_
    clear hK a; intro a hK
    refine kl hK 645 rfl (by decide) rfl (fun ρ hρ => r_ld57 _ rfl (hρ _ _ rfl) k0 k1 k2) ?_
    clear hK a; intro a hK
    refine kl hK 54 rfl (by decide) rfl (fun ρ hρ => r_al57 rfl) ?_
    clear hK a; intro a hK
    refine kst hK rfl rfl (fun ρ hρ => r_st57 (w := w) (p := e.1.1) (m := e.1.2.1) (q := e.1.2.2) _ _ rfl (hρ _ _ rfl) (hρ _ _ rfl)) ?_
    refine wpList_nil ?_
    show Code.wp Yba.prog _ _ _ _
    replace hK := hK.sub (M := (54, ptr w.heap.size) :: (53, .int .i64 (x : Nat)) :: (52, ptr (A.ta t)) :: (51, .int .i64 t) :: L3 I psB mbB tsB rsB B I.lr rqv wtv) ⟨rfl, rfl, rfl, rfl, rfl, rfl, rfl, rfl, rfl, rfl, rfl, rfl, rfl, rfl, rfl, rfl, rfl, rfl, rfl, rfl, trivial⟩
    refine wp_seq ?_
    refine wp_region_quiet_lit (by kernel_rfl) (by kernel_rfl) ?_
    refine kq hK 647 rfl (by decide) rfl (fun ρ hρ w' hw' => r_move _ rfl (hρ _ _ rfl)) ?_
    clear hK a; intro a hK
    refine kq hK 648 rfl (by decide) rfl (fun ρ hρ w' hw' => r_nil _ rfl (hρ _ _ rfl)) ?_
    clear hK a; intro a hK
    refine kq hK 649 rfl (by decide) rfl (fun ρ hρ w' hw' => r_fo53_11 _ rfl (hρ _ _ rfl)) ?_
    clear hK a; intro a hK
    refine kq hK 650 rfl (by decide) rfl (fun ρ hρ w' hw' => r_ld46 _ rfl (hρ _ _ rfl) (by obtain ⟨n, rfl⟩ := hw'; exact c11)) ?_
    clear hK a; intro a hK
    refine kq hK 651 rfl (by decide) rfl (fun ρ hρ w' hw' => r_move _ rfl (hρ _ _ rfl)) ?_
    clear hK a; intro a hK
    refine kq hK 652 rfl (by decide) rfl (fun ρ hρ w' hw' => r_fo57_0 _ rfl (hρ _ _ rfl)) ?_
    clear hK a; intro a hK
    refine kq hK 653 rfl (by decide) rfl (fun ρ hρ w' hw' => r_ld3 _ rfl (hρ _ _ rfl) (by obtain ⟨n, rfl⟩ := hw'; exact t0)) ?_
    clear hK a; intro a hK
    refine kq hK 654 rfl (by decide) rfl (fun ρ hρ w' hw' => r_idx32 _ _ rfl hp (hρ _ _ rfl) (hρ _ _ rfl)) ?_
    clear hK a; intro a hK
    refine kq hK 655 rfl (by decide) rfl (fun ρ hρ w' hw' => r_ld37 _ rfl (hρ _ _ rfl) (by obtain ⟨n, rfl⟩ := hw'; exact cp)) ?_
    clear hK a; intro a hK
    refine kq hK 656 rfl (by decide) rfl (fun ρ hρ w' hw' => r_fo57_1 _ rfl (hρ _ _ rfl)) ?_
    clear hK a; intro a hK
    refine kq hK 657 rfl (by decide) rfl (fun ρ hρ w' hw' => r_ld5 _ rfl (hρ _ _ rfl) (by obtain ⟨n, rfl⟩ := hw'; exact t1)) ?_
    clear hK a; intro a hK
    refine kq hK 658 rfl (by decide) rfl (fun ρ hρ w' hw' => r_fo57_2 _ rfl (hρ _ _ rfl)) ?_
    clear hK a; intro a hK
    refine kq hK 659 rfl (by decide) rfl (fun ρ hρ w' hw' => r_ld5 _ rfl (hρ _ _ rfl) (by obtain ⟨n, rfl⟩ := hw'; exact t2)) ?_
    clear hK a; intro a hK
    refine kq hK 660 rfl (by decide) rfl (fun ρ hρ w' hw' => r_b61 _ _ rfl (hρ _ _ rfl) (hρ _ _ rfl)) ?_
    clear hK a; intro a hK
    refine kq hK 661 rfl (by decide) rfl (fun ρ hρ w' hw' => r_b63 _ _ rfl (hρ _ _ rfl) (hρ _ _ rfl)) ?_
    clear hK a; intro a hK
    refine kq hK 662 rfl (by decide) rfl (fun ρ hρ w' hw' => r_lookup (k := keyV A.pa e.1) _ _ rfl (hρ _ _ rfl) (hρ _ _ rfl) (by obtain ⟨n, rfl⟩ := hw'; exact ((hS1.touch0 ((Touch.refl _ _).drewN n)).look ht he).2)) ?_
    clear hK a; intro a hK
    refine kq hK 646 rfl (by decide) rfl (fun ρ hρ w' hw' => r_move _ rfl (hρ _ _ rfl)) ?_
    clear hK a; intro a hK
    refine kq hK 663 rfl (by decide) rfl (fun ρ hρ w' hw' => r_ext _ 0 rfl (hρ _ _ rfl) rfl) ?_
    clear hK a; intro a hK
    refine kq hK 664 rfl (by decide) rfl (fun ρ hρ w' hw' => r_ext _ 1 rfl (hρ _ _ rfl) rfl) ?_
    clear hK a; intro a hK
    refine kq hK 55 rfl (by decide) rfl (fun ρ hρ w' hw' => r_assign _ rfl (hρ _ _ rfl)) ?_
    clear hK a; intro a hK
    refine kq hK 56 rfl (by decide) rfl (fun ρ hρ w' hw' => r_assign _ rfl (hρ _ _ rfl)) ?_
    clear hK a; intro a hK
    refine wpQuiet_nil ?_
    rintro w' ⟨n, rfl⟩
    show Code.wp Yba.prog _ _ _ _
    replace hK := hK.sub (M := (56, .bool true) :: (55, .int .i64 e.2) :: (53, .int .i64 (x : Nat)) :: (52, ptr (A.ta t)) :: (51, .int .i64 t) :: L3 I psB mbB tsB rsB B I.lr rqv wtv) ⟨rfl, rfl, rfl, rfl, rfl, rfl, rfl, rfl, rfl, rfl, rfl, rfl, rfl, rfl, rfl, rfl, rfl, rfl, rfl, rfl, rfl, trivial⟩
    have hS2 := hS1.touch0 ((Touch.refl _ _).drewN n)
    have c3 := hS2.mod.r3.cell (i := t) ht
    obtain ⟨g2, cap2, u2, h21, h22, h23, -⟩ := (hS2.mod.vals t ht).cell hxl
    have hu2 : u2 = .int .i64 e.2 := by
      have h22' : (valsL (I.D.N I.σ0 I.lr t).kv)[x]? = some u2 := h22
      unfold valsL at h22'
      rw [List.getElem?_map, he] at h22'
      exact (Option.some.inj h22').symm
    rw [h21] at c3
    rw [hu2] at h23
    refine wp_seq ?_
    refine wp_region_lit ?_
    refine kl hK 665 rfl (by decide) rfl (fun ρ hρ => r_move _ rfl (hρ _ _ rfl)) ?_
    clear hK a; intro a hK
    refine kl hK 666 rfl (by decide) rfl (fun ρ hρ => r_not _ rfl (hρ _ _ rfl)) ?_
    clear hK a; intro a hK
    refine kl hK 667 rfl (by decide) rfl (fun ρ hρ => r_move _ rfl (hρ _ _ rfl)) ?_
    clear hK a; intro a hK
    refine klg hK 668 2 667 rfl (by decide) rfl (by kernel_rfl) rfl (fun ρ hρ => r_move _ rfl (hρ _ _ rfl)) ?_
    clear hK a; intro a hK
    refine klg hK 669 2 667 rfl (by decide) rfl (by kernel_rfl) rfl (fun ρ hρ => r_move _ rfl (hρ _ _ rfl)) ?_
    clear hK a; intro a hK
    refine klg hK 670 2 667 rfl (by decide) rfl (by kernel_rfl) rfl (fun ρ hρ => r_move _ rfl (hρ _ _ rfl)) ?_
    clear hK a; intro a hK
    refine klg hK 671 2 667 rfl (by decide) rfl (by kernel_rfl) rfl (fun ρ hρ => r_idx44 _ _ rfl ht (hρ _ _ rfl) (hρ _ _ rfl)) ?_
    clear hK a; intro a hK
    refine klg hK 672 2 667 rfl (by decide) rfl (by kernel_rfl) rfl (fun ρ hρ => r_ld33 _ rfl (hρ _ _ rfl) c3) ?_
    clear hK a; intro a hK
    refine klg hK 673 2 667 rfl (by decide) rfl (by kernel_rfl) rfl (fun ρ hρ => r_move _ rfl (hρ _ _ rfl)) ?_
    clear hK a; intro a hK
    refine klg hK 674 2 667 rfl (by decide) rfl (by kernel_rfl) rfl (fun ρ hρ => r_idx33 _ _ rfl hxl (hρ _ _ rfl) (hρ _ _ rfl)) ?_
    clear hK a; intro a hK
    refine klg hK 675 2 667 rfl (by decide) rfl (by kernel_rfl) rfl (fun ρ hρ => r_ld3 _ rfl (hρ _ _ rfl) h23) ?_
    clear hK a; intro a hK
    refine klg hK 676 2 667 rfl (by decide) rfl (by kernel_rfl) rfl (fun ρ hρ => r_neq3 _ _ rfl (hρ _ _ rfl) (hρ _ _ rfl)) ?_
    clear hK a; intro a hK
    refine kl hK 677 rfl (by decide) rfl (fun ρ hρ => r_pick _ _ rfl (hρ _ _ rfl) (hρ _ _ rfl)) ?_
    clear hK a; intro a hK
    refine wpList_nil ?_
    show Code.wp Yba.prog _ _ _ _
    refine wp_cond_false (hK.rho (.tmp 677) _ rfl) ?_
    refine wp_skip ?_
    show Code.wp Yba.prog _ _ _ _
    refine wp_region_lit ?_
    refine kl hK 637 rfl (by decide) rfl (fun ρ hρ => r_move _ rfl (hρ _ _ rfl)) ?_
    clear hK a; intro a hK
    refine kl hK 638 rfl (by decide) rfl (fun ρ hρ => r_inc3 _ rfl (by omega) (hρ _ _ rfl) (hρ _ _ rfl)) ?_
    clear hK a; intro a hK
    refine kl hK 53 rfl (by decide) rfl (fun ρ hρ => r_assign _ rfl (hρ _ _ rfl)) ?_
    clear hK a; intro a hK
    refine wpList_nil ?_
    exact hR ((I.D.N I.σ0 I.lr t).kv.length - (x + 1)) _ _ (by omega) ⟨x + 1, hxl, rfl, hK.sub ⟨rfl, rfl, rfl, rfl, rfl, rfl, rfl, rfl, rfl, rfl, rfl, rfl, rfl, rfl, rfl, rfl, rfl, rfl, rfl, trivial⟩, hS2⟩
  · refine wp_cond_false (by rw [hK.rho (.tmp 636) _ rfl, decide_eq_false hxl]) ?_
    refine wp_exit ?_
    exact hKK _ _ (hK.sub ⟨rfl, rfl, rfl, rfl, rfl, rfl, rfl, rfl, rfl, rfl, rfl, rfl, rfl, rfl, rfl, rfl, rfl, trivial⟩) hS

theorem r_lenM' {ρ : Operand → Value} {o : Oper} {w : World} (x : Operand) (ho : o.op = .call { callee := .builtin .len, args := #[x], argTypes := #[46] }) {b : Nat} {es : Array MapEntry} {c n : Nat} (h : ρ x = .map (some b)) (hb : w.heap[b]? = some (.map es c)) (hn : es.size = n) : (execOp ρ o).run Yba.prog w = .ok (.value (.int .i64 n)) w := by
  rw [← hn]
  exact r_lenM x ho h hb

set_option maxRecDepth 100000 in
set_option maxHeartbeats 1000000 in
theorem loop22 (I : Inp) (w0 : World) (lab : Lab) (A : Adr) (psB mbB tsB rsB : Nat) (B : MB) (ks vs : Nat → Value) (rqv wtv : Value) (β : Nat → Int) (hnt : I.D.nt ≤ 4096) (hlen : ∀ t, (I.D.N I.σ0 I.lr t).kv.length ≤ 100000) (Q : Exit → Act → World → Prop) (K : Act → World → Prop) (hKK : ∀ a w, Kn 831 (L3 I psB mbB tsB rsB B I.lr rqv wtv) a → FS I w0 lab w A psB mbB tsB rsB B ks vs rqv wtv β → K a w) (a : Act) (w : World) (hK : Kn 831 ((51, .int .i64 (0 : Nat)) :: L3 I psB mbB tsB rsB B I.lr rqv wtv) a) (hS : FS I w0 lab w A psB mbB tsB rsB B ks vs rqv wtv β) :
    Code.wp Yba.prog (nav [1, 1, 1, 1, 1, 1, 1, 1, 1, 1, 1, 1, 1, 1, 1, 1, 1, 1, 1, 1, 1, 1, 1, 1, 0, 1] (Yba.f3.body.getD .skip)) (Exit.then K Q) a w := by
  refine loop_n K (fun n a w => ∃ t, t ≤ I.D.nt ∧ n = I.D.nt - t ∧ Kn 831 ((51, .int .i64 (t : Nat)) :: L3 I psB mbB tsB rsB B I.lr rqv wtv) a ∧ FS I w0 lab w A psB mbB tsB rsB B ks vs rqv wtv β) ⟨0, Nat.zero_le _, rfl, hK, hS⟩ ?_
  clear hK hS a w
  rintro n a w R ⟨t, ht, hn, hK, hS⟩ hR
  refine wp_seq ?_
  refine wp_seq ?_
  refine wp_region_lit ?_
  refine kl hK 583 rfl (by decide) rfl (fun ρ hρ => r_move _ rfl (hρ _ _ rfl)) ?_
  clear hK a; intro a hK
  refine kl hK 584 rfl (by decide) rfl (fun ρ hρ => r_move _ rfl (hρ _ _ rfl)) ?_
  clear hK a; intro a hK
  refine kl hK 585 rfl (by decide) rfl (fun ρ hρ => r_lss3 _ _ rfl (hρ _ _ rfl) (hρ _ _ rfl)) ?_
  clear hK a; intro a hK
  refine wpList_nil ?_
  show Code.wp Yba.prog _ _ _ _
  by_cases htl : t < I.D.nt
  · have ct := hS.rts.cell (i := t) htl
    obtain ⟨c9, c10, c11, c12⟩ := hS.tcells htl
    have c19 := hS.mod.r0.cell (i := t) htl
    have c20 := hS.mod.r1.cell (i := t) htl
    have c21 := hS.mod.r2.cell (i := t) htl
    obtain ⟨ka, kc, hks, -⟩ := (hS.mod.keys t htl).keysAt
    rw [hks] at c21
    obtain ⟨es, clk, hb, hes⟩ := (hS.trx t htl).2.2.1.map
    have hn2 : es.size = (I.D.N I.σ0 I.lr t).kv.length := by
      have := congrArg List.length hes
      simpa using this
    refine wp_cond_true (by rw [hK.rho (.tmp 585) _ rfl, decide_eq_true htl]) ?_
    refine wp_skip ?_
    show Code.wp Yba.prog _ _ _ _
    replace hK := hK.sub (M := (51, .int .i64 (t : Nat)) :: L3 I psB mbB tsB rsB B I.lr rqv wtv) ⟨rfl, rfl, rfl, rfl, rfl, rfl, rfl, rfl, rfl, rfl, rfl, rfl, rfl, rfl, rfl, rfl, rfl, trivial⟩
    refine wp_seq ?_
    refine wp_block ?_
    refine wp_seq ?_
    refine wp_region_lit ?_
    refine kl hK 588 rfl (by decide) rfl (fun ρ hρ => r_move _ rfl (hρ _ _ rfl)) ?_
    clear hK a; intro a hK
    refine kl hK 589 rfl (by decide) rfl (fun ρ hρ => r_move _ rfl (hρ _ _ rfl)) ?_
    clear hK a; intro a hK
    refine kl hK 590 rfl (by decide) rfl (fun ρ hρ => r_idx42 _ _ rfl htl (hρ _ _ rfl) (hρ _ _ rfl)) ?_
    clear hK a; intro a hK
    refine kl hK 591 rfl (by decide) rfl (fun ρ hρ => r_ld45 _ rfl (hρ _ _ rfl) ct) ?_
    clear hK a; intro a hK
    refine kl hK 52 rfl (by decide) rfl (fun ρ hρ => r_assign _ rfl (hρ _ _ rfl)) ?_
    clear hK a; intro a hK
    refine wpList_nil ?_
    show Code.wp Yba.prog _ _ _ _
    replace hK := hK.sub (M := (52, ptr (A.ta t)) :: (51, .int .i64 (t : Nat)) :: L3 I psB mbB tsB rsB B I.lr rqv wtv) ⟨rfl, rfl, rfl, rfl, rfl, rfl, rfl, rfl, rfl, rfl, rfl, rfl, rfl, rfl, rfl, rfl, rfl, rfl, trivial⟩
    refine wp_seq ?_
    refine wp_seq ?_
    refine wp_region_quiet_lit (by kernel_rfl) (by kernel_rfl) ?_
    refine kq hK 592 rfl (by decide) rfl (fun ρ hρ w' hw' => r_move _ rfl (hρ _ _ rfl)) ?_
    clear hK a; intro a hK
    refine kq hK 593 rfl (by decide) rfl (fun ρ hρ w' hw' => r_nil _ rfl (hρ _ _ rfl)) ?_
    clear hK a; intro a hK
    refine kq hK 594 rfl (by decide) rfl (fun ρ hρ w' hw' => r_fo53_9 _ rfl (hρ _ _ rfl)) ?_
    clear hK a; intro a hK
    refine kq hK 595 rfl (by decide) rfl (fun ρ hρ w' hw' => r_ld3 _ rfl (hρ _ _ rfl) (by obtain ⟨n, rfl⟩ := hw'; exact c9)) ?_
    clear hK a; intro a hK
    refine kq hK 596 rfl (by decide) rfl (fun ρ hρ w' hw' => r_move _ rfl (hρ _ _ rfl)) ?_
    clear hK a; intro a hK
    refine kq hK 597 rfl (by decide) rfl (fun ρ hρ w' hw' => r_move _ rfl (hρ _ _ rfl)) ?_
    clear hK a; intro a hK
    refine kq hK 598 rfl (by decide) rfl (fun ρ hρ w' hw' => r_idx33 _ _ rfl htl (hρ _ _ rfl) (hρ _ _ rfl)) ?_
    clear hK a; intro a hK
    refine kq hK 599 rfl (by decide) rfl (fun ρ hρ w' hw' => r_ld3 _ rfl (hρ _ _ rfl) (by obtain ⟨n, rfl⟩ := hw'; exact c19)) ?_
    clear hK a; intro a hK
    refine kq hK 600 rfl (by decide) rfl (fun ρ hρ w' hw' => r_neq3 _ _ rfl (hρ _ _ rfl) (hρ _ _ rfl)) ?_
    clear hK a; intro a hK
    refine kq hK 601 rfl (by decide) rfl (fun ρ hρ w' hw' => r_move _ rfl (hρ _ _ rfl)) ?_
    clear hK a; intro a hK
    refine kqg hK 602 9 601 rfl (by decide) rfl (by kernel_rfl) rfl (fun ρ hρ w' hw' => r_move _ rfl (hρ _ _ rfl)) ?_
    clear hK a; intro a hK
    refine kqg hK 603 9 601 rfl (by decide) rfl (by kernel_rfl) rfl (fun ρ hρ w' hw' => r_nil _ rfl (hρ _ _ rfl)) ?_
    clear hK a; intro a hK
    refine kqg hK 604 9 601 rfl (by decide) rfl (by kernel_rfl) rfl (fun ρ hρ w' hw' => r_fo53_10 _ rfl (hρ _ _ rfl)) ?_
    clear hK a; intro a hK
    refine kqg hK 605 9 601 rfl (by decide) rfl (by kernel_rfl) rfl (fun ρ hρ w' hw' => r_ld3 _ rfl (hρ _ _ rfl) (by obtain ⟨n, rfl⟩ := hw'; exact c10)) ?_
    clear hK a; intro a hK
    refine kqg hK 606 9 601 rfl (by decide) rfl (by kernel_rfl) rfl (fun ρ hρ w' hw' => r_move _ rfl (hρ _ _ rfl)) ?_
    clear hK a; intro a hK
    refine kqg hK 607 9 601 rfl (by decide) rfl (by kernel_rfl) rfl (fun ρ hρ w' hw' => r_move _ rfl (hρ _ _ rfl)) ?_
    clear hK a; intro a hK
    refine kqg hK 608 9 601 rfl (by decide) rfl (by kernel_rfl) rfl (fun ρ hρ w' hw' => r_idx33 _ _ rfl htl (hρ _ _ rfl) (hρ _ _ rfl)) ?_
    clear hK a; intro a hK
    refine kqg hK 609 9 601 rfl (by decide) rfl (by kernel_rfl) rfl (fun ρ hρ w' hw' => r_ld3 _ rfl (hρ _ _ rfl) (by obtain ⟨n, rfl⟩ := hw'; exact c20)) ?_
    clear hK a; intro a hK
    refine kqg hK 610 9 601 rfl (by decide) rfl (by kernel_rfl) rfl (fun ρ hρ w' hw' => r_neq3 _ _ rfl (hρ _ _ rfl) (hρ _ _ rfl)) ?_
    clear hK a; intro a hK
    refine kq hK 611 rfl (by decide) rfl (fun ρ hρ w' hw' => r_pick _ _ rfl (hρ _ _ rfl) (hρ _ _ rfl)) ?_
    clear hK a; intro a hK
    refine kq hK 612 rfl (by decide) rfl (fun ρ hρ w' hw' => r_move _ rfl (hρ _ _ rfl)) ?_
    clear hK a; intro a hK
    refine kqg hK 613 20 612 rfl (by decide) rfl (by kernel_rfl) rfl (fun ρ hρ w' hw' => r_move _ rfl (hρ _ _ rfl)) ?_
    clear hK a; intro a hK
    refine kqg hK 614 20 612 rfl (by decide) rfl (by kernel_rfl) rfl (fun ρ hρ w' hw' => r_nil _ rfl (hρ _ _ rfl)) ?_
    clear hK a; intro a hK
    refine kqg hK 615 20 612 rfl (by decide) rfl (by kernel_rfl) rfl (fun ρ hρ w' hw' => r_fo53_12 _ rfl (hρ _ _ rfl)) ?_
    clear hK a; intro a hK
    refine kqg hK 616 20 612 rfl (by decide) rfl (by kernel_rfl) rfl (fun ρ hρ w' hw' => r_ld51 _ rfl (hρ _ _ rfl) (by obtain ⟨n, rfl⟩ := hw'; exact c12)) ?_
    clear hK a; intro a hK
    refine kqg hK 617 20 612 rfl (by decide) rfl (by kernel_rfl) rfl (fun ρ hρ w' hw' => r_neq51 _ rfl (hρ _ _ rfl) (hρ _ _ rfl)) ?_
    clear hK a; intro a hK
    refine kq hK 618 rfl (by decide) rfl (fun ρ hρ w' hw' => r_pick _ _ rfl (hρ _ _ rfl) (hρ _ _ rfl)) ?_
    clear hK a; intro a hK
    refine wpQuiet_nil ?_
    rintro w' ⟨n, rfl⟩
    show Code.wp Yba.prog _ _ _ _
    refine wp_cond_false (hK.rho (.tmp 618) _ rfl) ?_
    refine wp_skip ?_
    show Code.wp Yba.prog _ _ _ _
    replace hK := hK.sub (M := (52, ptr (A.ta t)) :: (51, .int .i64 (t : Nat)) :: L3 I psB mbB tsB rsB B I.lr rqv wtv) ⟨rfl, rfl, rfl, rfl, rfl, rfl, rfl, rfl, rfl, rfl, rfl, rfl, rfl, rfl, rfl, rfl, rfl, rfl, trivial⟩
    refine wp_seq ?_
    refine wp_seq ?_
    refine wp_region_quiet_lit (by kernel_rfl) (by kernel_rfl) ?_
    refine kq hK 619 rfl (by decide) rfl (fun ρ hρ w' hw' => r_move _ rfl (hρ _ _ rfl)) ?_
    clear hK a; intro a hK
    refine kq hK 620 rfl (by decide) rfl (fun ρ hρ w' hw' => r_nil _ rfl (hρ _ _ rfl)) ?_
    clear hK a; intro a hK
    refine kq hK 621 rfl (by decide) rfl (fun ρ hρ w' hw' => r_fo53_11 _ rfl (hρ _ _ rfl)) ?_
    clear hK a; intro a hK
    refine kq hK 622 rfl (by decide) rfl (fun ρ hρ w' hw' => r_ld46 _ rfl (hρ _ _ rfl) (by obtain ⟨n, rfl⟩ := hw'; exact c11)) ?_
    clear hK a; intro a hK
    refine kq hK 623 rfl (by decide) rfl (fun ρ hρ w' hw' => r_lenM' _ rfl (hρ _ _ rfl) (by obtain ⟨n, rfl⟩ := hw'; exact hb) hn2) ?_
    clear hK a; intro a hK
    refine kq hK 624 rfl (by decide) rfl (fun ρ hρ w' hw' => r_move _ rfl (hρ _ _ rfl)) ?_
    clear hK a; intro a hK
    refine kq hK 625 rfl (by decide) rfl (fun ρ hρ w' hw' => r_move _ rfl (hρ _ _ rfl)) ?_
    clear hK a; intro a hK
    refine kq hK 626 rfl (by decide) rfl (fun ρ hρ w' hw' => r_idx43 _ _ rfl htl (hρ _ _ rfl) (hρ _ _ rfl)) ?_
    clear hK a; intro a hK
    refine kq hK 627 rfl (by decide) rfl (fun ρ hρ w' hw' => r_ld65 _ rfl (hρ _ _ rfl) (by obtain ⟨n, rfl⟩ := hw'; exact c21)) ?_
    clear hK a; intro a hK
    refine kq hK 628 rfl (by decide) rfl (fun ρ hρ w' hw' => r_len65 _ rfl (hρ _ _ rfl)) ?_
    clear hK a; intro a hK
    refine kq hK 629 rfl (by decide) rfl (fun ρ hρ w' hw' => r_neq3 _ _ rfl (hρ _ _ rfl) (hρ _ _ rfl)) ?_
    clear hK a; intro a hK
    refine wpQuiet_nil ?_
    rintro w' ⟨n, rfl⟩
    show Code.wp Yba.prog _ _ _ _
    refine wp_cond_false (hK.rho (.tmp 629) _ rfl) ?_
    refine wp_skip ?_
    show Code.wp Yba.prog _ _ _ _
    refine wp_seq ?_
    refine wp_region_lit ?_
    refine kl hK 53 rfl (by decide) rfl (fun ρ hρ => r_assign _ rfl (hρ _ _ rfl)) ?_
    clear hK a; intro a hK
    refine wpList_nil ?_
    show Code.wp Yba.prog _ _ _ _
    refine wp_then ?_
    refine loop24 I w0 lab A psB mbB tsB rsB B ks vs rqv wtv β t htl (hlen t) _ _ ?_ a _ (hK.sub ⟨rfl, rfl, rfl, rfl, rfl, rfl, rfl, rfl, rfl, rfl, rfl, rfl, rfl, rfl, rfl, rfl, rfl, rfl, rfl, trivial⟩) ((hS.touch0 ((Touch.refl _ _).drewN _)).touch0 ((Touch.refl _ _).drewN _))
    clear hK a
    intro a w' hK hS'
    show Code.wp Yba.prog _ _ _ _
    refine wp_region_lit ?_
    refine kl hK 586 rfl (by decide) rfl (fun ρ hρ => r_move _ rfl (hρ _ _ rfl)) ?_
    clear hK a; intro a hK
    refine kl hK 587 rfl (by decide) rfl (fun ρ hρ => r_inc3 _ rfl (by omega) (hρ _ _ rfl) (hρ _ _ rfl)) ?_
    clear hK a; intro a hK
    refine kl hK 51 rfl (by decide) rfl (fun ρ hρ => r_assign _ rfl (hρ _ _ rfl)) ?_
    clear hK a; intro a hK
    refine wpList_nil ?_
    exact hR (I.D.nt - (t + 1)) _ _ (by omega) ⟨t + 1, htl, rfl, hK.sub ⟨rfl, rfl, rfl, rfl, rfl, rfl, rfl, rfl, rfl, rfl, rfl, rfl, rfl, rfl, rfl, rfl, rfl, trivial⟩, hS'⟩
  · refine wp_cond_false (by rw [hK.rho (.tmp 585) _ rfl, decide_eq_false htl]) ?_
    refine wp_exit ?_
    exact hKK _ _ (hK.sub ⟨rfl, rfl, rfl, rfl, rfl, rfl, rfl, rfl, rfl, rfl, rfl, rfl, rfl, rfl, rfl, rfl, trivial⟩) hS
end Go.Proofs.Ybulkeyzg
