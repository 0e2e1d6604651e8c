import Derived.Test.YbulkeyzgE4
namespace Go.Proofs.Ybulkeyzg
open Go.RowKit

section
variable {ρ : Operand → Value} {o : Oper} {w : World}
theorem r_ix24p (x y : Operand) (ho : o.op = .indexAddr 24 x y) {p : Option Addr} {b q n c i : Nat} (hp : p = some ⟨b, q, none⟩) (hi : i < n) (h : ρ x = .slice p n c) (h' : ρ y = .int .i64 i) : (execOp ρ o).run Yba.prog w = .ok (.value (.pointer (some ⟨b, q + i * 5, none⟩))) w :=
  r_ix24 x y ho hi (by rw [h, hp]) h'
theorem r_ix28p (x y : Operand) (ho : o.op = .indexAddr 28 x y) {p : Option Addr} {b q n c i : Nat} (hp : p = some ⟨b, q, none⟩) (hi : i < n) (h : ρ x = .slice p n c) (h' : ρ y = .int .i64 i) : (execOp ρ o).run Yba.prog w = .ok (.value (.pointer (some ⟨b, q + i * 4, none⟩))) w :=
  r_ix28 x y ho hi (by rw [h, hp]) h'
theorem r_ix22p (x y : Operand) (ho : o.op = .indexAddr 22 x y) {p : Option Addr} {b q n c i : Nat} (hp : p = some ⟨b, q, none⟩) (hi : i < n) (h : ρ x = .slice p n c) (h' : ρ y = .int .i64 i) : (execOp ρ o).run Yba.prog w = .ok (.value (.pointer (some ⟨b, q + i * 2, none⟩))) w :=
  r_ix22 x y ho hi (by rw [h, hp]) h'
theorem r_rem512 (x : Operand) (ho : o.op = .binOp .rem 34 x (.const (.int .u16 512)) 34) {n : Nat} (h : ρ x = .int .u16 n) (hk : ρ (.const (.int .u16 512)) = .int .u16 512) : (execOp ρ o).run Yba.prog w = .ok (.value (.int .u16 (n % 512 : Nat))) w := by
  have u3 := Yba.underlying34
  unfold execOp; rw [ho]; simp only; go_simp
  rw [Int.tmod_eq_emod_of_nonneg (by omega)]
theorem r_rem64 (x : Operand) (ho : o.op = .binOp .rem 5 x (.const (.int .u8 64)) 5) {n : Nat} (h : ρ x = .int .u8 n) (hk : ρ (.const (.int .u8 64)) = .int .u8 64) : (execOp ρ o).run Yba.prog w = .ok (.value (.int .u8 (n % 64 : Nat))) w := by
  have u3 := Yba.underlying5
  unfold execOp; rw [ho]; simp only; go_simp
  rw [Int.tmod_eq_emod_of_nonneg (by omega)]
theorem r_conv34 (x : Operand) (ho : o.op = .convert 34 3 x) {n : Nat} (hn : n < 65536) (h : ρ x = .int .u16 n) : (execOp ρ o).run Yba.prog w = .ok (.value (.int .i64 n)) w := by
  have u2 := Yba.underlying34
  have u3 := Yba.underlying3
  have hw : IntKind.i64.wrap (n : Int) = n := by rw [IntKind.wrap_i64]; omega
  unfold execOp; rw [ho]; simp only; go_simp
end

set_option maxRecDepth 100000 in
set_option maxHeartbeats 1000000 in
theorem loop28 (I : Inp) (w0 : World) (hA : I.At w0) (_ : I.Fine) (lab : Lab) (A : Adr) (psB mbB tsB rsB : Nat) (B : MB) (ks vs : Nat → Value) (rqv wtv : Value) (β : Nat → Int) (i : Nat) (hi : i < I.lr) (hnh : (I.R i).nh ≤ 4096) (Q : Exit → Act → World → Prop) (K : Act → World → Prop) (hKK : ∀ a w, Kn 831 ((57, .int .i64 i) :: L3 I psB mbB tsB rsB B I.lr rqv wtv) a → FS I w0 lab w A psB mbB tsB rsB B ks vs rqv wtv β → K a w) (a : Act) (w : World) (hK : Kn 831 ((59, .int .i64 (0 : Nat)) :: (58, ptr (A.ra i)) :: (57, .int .i64 i) :: L3 I psB mbB tsB rsB B I.lr rqv wtv) a) (hS : FS I w0 lab w A psB mbB tsB rsB B ks vs rqv wtv β) :
    Code.wp Yba.prog (nav [1, 1, 1, 1, 1, 1, 1, 1, 1, 1, 1, 1, 1, 1, 1, 1, 1, 1, 1, 1, 1, 1, 1, 1, 1, 0, 1, 0, 0, 1, 0, 0, 1, 1, 1] (Yba.f3.body.getD .skip)) (Exit.then K Q) a w := by
  refine loop_n K (fun n a w => ∃ j, j ≤ (I.R i).nh ∧ n = (I.R i).nh - j ∧ Kn 831 ((59, .int .i64 (j : Nat)) :: (58, ptr (A.ra i)) :: (57, .int .i64 i) :: L3 I psB mbB tsB rsB B I.lr rqv wtv) a ∧ FS I w0 lab w A psB mbB tsB rsB B ks vs rqv wtv β) ⟨0, Nat.zero_le _, rfl, hK, hS⟩ ?_
  clear hK hS a w
  rintro n a w R ⟨j, hj, hn, hK, hS⟩ hR
  have hrec := hS.recs i hi
  obtain ⟨f, f1, f2, f4, f9, f10, -⟩ := hrec.obj
  have c9 := f1.cell (i := 9) (by omega)
  obtain ⟨sa, sc, hsv⟩ := hrec.held.slice
  rw [f9, hsv] at c9
  refine wp_seq ?_
  refine wp_seq ?_
  refine wp_region_lit ?_
  refine kl hK 744 rfl (by decide) rfl (fun ρ hρ => r_move _ rfl (hρ _ _ rfl)) ?_
  clear hK a; intro a hK
  refine kl hK 745 rfl (by decide) rfl (fun ρ hρ => r_move _ rfl (hρ _ _ rfl)) ?_
  clear hK a; intro a hK
  refine kl hK 746 rfl (by decide) rfl (fun ρ hρ => r_nil _ rfl (hρ _ _ rfl)) ?_
  clear hK a; intro a hK
  refine kl hK 747 rfl (by decide) rfl (fun ρ hρ => r_fo72_9 _ rfl (hρ _ _ rfl)) ?_
  clear hK a; intro a hK
  refine kl hK 748 rfl (by decide) rfl (fun ρ hρ => r_ld49 _ rfl (hρ _ _ rfl) c9) ?_
  clear hK a; intro a hK
  refine kl hK 749 rfl (by decide) rfl (fun ρ hρ => r_len49 _ rfl (hρ _ _ rfl)) ?_
  clear hK a; intro a hK
  refine kl hK 750 rfl (by decide) rfl (fun ρ hρ => r_lss3 _ _ rfl (hρ _ _ rfl) (hρ _ _ rfl)) ?_
  clear hK a; intro a hK
  refine wpList_nil ?_
  show Code.wp Yba.prog _ _ _ _
  by_cases hjl : j < (I.R i).nh
  · obtain ⟨b, off, hp, hb, -, -, -, i3, -⟩ := (hA.below hS.labs.bel).recs i hi
    obtain ⟨b2, off2, hp2, hb2, -, -, -, j3⟩ := (hA.below hS.labs.bel).held i hi j hjl
    obtain ⟨g1, cap1, u1, h11, h12, h13, -⟩ := hrec.held.cell hjl
    rw [hsv] at h11
    cases h11
    have hu1 : u1 = ptr (A.ha i j) := by
      rw [List.getElem?_map, List.getElem?_range hjl] at h12
      exact (Option.some.inj h12).symm
    rw [hu1] at h13
    obtain ⟨fh, m1, -, -, -, m3, m5⟩ := (hrec.hobj j hjl).2
    have d3 := m1.cell (i := 3) (by omega)
    have d5 : w.cell? ⟨A.ha i j, 5, none⟩ = some (.bool ((I.R i).h j).imp) := by
      have := m1.cell (i := 5) (by omega)
      rw [m5] at this
      exact this
    rw [m3] at d3
    refine wp_cond_true (by rw [hK.rho (.tmp 750) _ rfl]; exact congrArg Value.bool (decide_eq_true hjl)) ?_
    refine wp_skip ?_
    show Code.wp Yba.prog _ _ _ _
    replace hK := hK.sub (M := (59, .int .i64 (j : Nat)) :: (58, ptr (A.ra i)) :: (57, .int .i64 i) :: L3 I psB mbB tsB rsB B I.lr rqv wtv) ⟨rfl, rfl, rfl, rfl, rfl, rfl, rfl, rfl, rfl, rfl, rfl, rfl, rfl, rfl, rfl, rfl, rfl, rfl, rfl, trivial⟩
    refine wp_seq ?_
    refine wp_block ?_
    refine wp_seq ?_
    refine wp_region_quiet_lit (by kernel_rfl) (by kernel_rfl) ?_
    refine kq hK 753 rfl (by decide) rfl (fun ρ hρ w' hw' => r_move _ rfl (hρ _ _ rfl)) ?_
    clear hK a; intro a hK
    refine kq hK 754 rfl (by decide) rfl (fun ρ hρ w' hw' => r_nil _ rfl (hρ _ _ rfl)) ?_
    clear hK a; intro a hK
    refine kq hK 755 rfl (by decide) rfl (fun ρ hρ w' hw' => r_fo72_9 _ rfl (hρ _ _ rfl)) ?_
    clear hK a; intro a hK
    refine kq hK 756 rfl (by decide) rfl (fun ρ hρ w' hw' => r_ld49 _ rfl (hρ _ _ rfl) (by obtain ⟨n, rfl⟩ := hw'; exact c9)) ?_
    clear hK a; intro a hK
    refine kq hK 757 rfl (by decide) rfl (fun ρ hρ w' hw' => r_move _ rfl (hρ _ _ rfl)) ?_
    clear hK a; intro a hK
    refine kq hK 758 rfl (by decide) rfl (fun ρ hρ w' hw' => r_ix49 _ _ rfl hjl (hρ _ _ rfl) (hρ _ _ rfl)) ?_
    clear hK a; intro a hK
    refine kq hK 759 rfl (by decide) rfl (fun ρ hρ w' hw' => r_ld75 _ rfl (hρ _ _ rfl) (by obtain ⟨n, rfl⟩ := hw'; exact h13)) ?_
    clear hK a; intro a hK
    refine kq hK 760 rfl (by decide) rfl (fun ρ hρ w' hw' => r_nil _ rfl (hρ _ _ rfl)) ?_
    clear hK a; intro a hK
    refine kq hK 761 rfl (by decide) rfl (fun ρ hρ w' hw' => r_fo77_2 _ rfl (hρ _ _ rfl)) ?_
    clear hK a; intro a hK
    refine kq hK 762 rfl (by decide) rfl (fun ρ hρ w' hw' => r_ld39 _ rfl (hρ _ _ rfl) (by obtain ⟨n, rfl⟩ := hw'; exact d3)) ?_
    clear hK a; intro a hK
    refine kq hK 763 rfl (by decide) rfl (fun ρ hρ w' hw' => r_move _ rfl (hρ _ _ rfl)) ?_
    clear hK a; intro a hK
    refine kq hK 764 rfl (by decide) rfl (fun ρ hρ w' hw' => r_neq39 _ _ rfl (hρ _ _ rfl) (hρ _ _ rfl)) ?_
    clear hK a; intro a hK
    refine kq hK 765 rfl (by decide) rfl (fun ρ hρ w' hw' => r_move _ rfl (hρ _ _ rfl)) ?_
    clear hK a; intro a hK
    refine kqg hK 766 12 765 rfl (by decide) rfl (by kernel_rfl) rfl (fun ρ hρ w' hw' => r_move _ rfl (hρ _ _ rfl)) ?_
    clear hK a; intro a hK
    refine kqg hK 767 12 765 rfl (by decide) rfl (by kernel_rfl) rfl (fun ρ hρ w' hw' => r_nil _ rfl (hρ _ _ rfl)) ?_
    clear hK a; intro a hK
    refine kqg hK 768 12 765 rfl (by decide) rfl (by kernel_rfl) rfl (fun ρ hρ w' hw' => r_fo72_9 _ rfl (hρ _ _ rfl)) ?_
    clear hK a; intro a hK
    refine kqg hK 769 12 765 rfl (by decide) rfl (by kernel_rfl) rfl (fun ρ hρ w' hw' => r_ld49 _ rfl (hρ _ _ rfl) (by obtain ⟨n, rfl⟩ := hw'; exact c9)) ?_
    clear hK a; intro a hK
    refine kqg hK 770 12 765 rfl (by decide) rfl (by kernel_rfl) rfl (fun ρ hρ w' hw' => r_move _ rfl (hρ _ _ rfl)) ?_
    clear hK a; intro a hK
    refine kqg hK 771 12 765 rfl (by decide) rfl (by kernel_rfl) rfl (fun ρ hρ w' hw' => r_ix49 _ _ rfl hjl (hρ _ _ rfl) (hρ _ _ rfl)) ?_
    clear hK a; intro a hK
    refine kqg hK 772 12 765 rfl (by decide) rfl (by kernel_rfl) rfl (fun ρ hρ w' hw' => r_ld75 _ rfl (hρ _ _ rfl) (by obtain ⟨n, rfl⟩ := hw'; exact h13)) ?_
    clear hK a; intro a hK
    refine kqg hK 773 12 765 rfl (by decide) rfl (by kernel_rfl) rfl (fun ρ hρ w' hw' => r_nil _ rfl (hρ _ _ rfl)) ?_
    clear hK a; intro a hK
    refine kqg hK 774 12 765 rfl (by decide) rfl (by kernel_rfl) rfl (fun ρ hρ w' hw' => r_fo77_4 _ rfl (hρ _ _ rfl)) ?_
    clear hK a; intro a hK
    refine kqg hK 775 12 765 rfl (by decide) rfl (by kernel_rfl) rfl (fun ρ hρ w' hw' => r_ld4 _ rfl (hρ _ _ rfl) (by obtain ⟨n, rfl⟩ := hw'; exact d5)) ?_
    clear hK a; intro a hK
    refine kqg hK 776 12 765 rfl (by decide) rfl (by kernel_rfl) rfl (fun ρ hρ w' hw' => r_move _ rfl (hρ _ _ rfl)) ?_
    clear hK a; intro a hK
    refine kqg hK 777 12 765 rfl (by decide) rfl (by kernel_rfl) rfl (fun ρ hρ w' hw' => r_move _ rfl (hρ _ _ rfl)) ?_
    clear hK a; intro a hK
    refine kqg hK 778 12 765 rfl (by decide) rfl (by kernel_rfl) rfl (fun ρ hρ w' hw' => r_ix24p _ _ rfl hp hi (hρ _ _ rfl) (hρ _ _ rfl)) ?_
    clear hK a; intro a hK
    refine kqg hK 779 12 765 rfl (by decide) rfl (by kernel_rfl) rfl (fun ρ hρ w' hw' => r_fa31_3 _ rfl (hρ _ _ rfl)) ?_
    clear hK a; intro a hK
    refine kqg hK 780 12 765 rfl (by decide) rfl (by kernel_rfl) rfl (fun ρ hρ w' hw' => r_ld28 _ rfl (hρ _ _ rfl) (by obtain ⟨n, rfl⟩ := hw'; exact i3)) ?_
    clear hK a; intro a hK
    refine kqg hK 781 12 765 rfl (by decide) rfl (by kernel_rfl) rfl (fun ρ hρ w' hw' => r_move _ rfl (hρ _ _ rfl)) ?_
    clear hK a; intro a hK
    refine kqg hK 782 12 765 rfl (by decide) rfl (by kernel_rfl) rfl (fun ρ hρ w' hw' => r_ix28p _ _ rfl hp2 hjl (hρ _ _ rfl) (hρ _ _ rfl)) ?_
    clear hK a; intro a hK
    refine kqg hK 783 12 765 rfl (by decide) rfl (by kernel_rfl) rfl (fun ρ hρ w' hw' => r_fa74_3 _ rfl (hρ _ _ rfl)) ?_
    clear hK a; intro a hK
    refine kqg hK 784 12 765 rfl (by decide) rfl (by kernel_rfl) rfl (fun ρ hρ w' hw' => r_ld4 _ rfl (hρ _ _ rfl) (by obtain ⟨n, rfl⟩ := hw'; exact j3)) ?_
    clear hK a; intro a hK
    refine kqg hK 785 12 765 rfl (by decide) rfl (by kernel_rfl) rfl (fun ρ hρ w' hw' => r_neq4 _ _ rfl (hρ _ _ rfl) (hρ _ _ rfl)) ?_
    clear hK a; intro a hK
    refine kq hK 786 rfl (by decide) rfl (fun ρ hρ w' hw' => r_pick _ _ rfl (hρ _ _ rfl) (hρ _ _ rfl)) ?_
    clear hK a; intro a hK
    refine wpQuiet_nil ?_
    rintro w' ⟨n, rfl⟩
    show Code.wp Yba.prog _ _ _ _
    refine wp_cond_false (hK.rho (.tmp 786) _ rfl) ?_
    refine wp_skip ?_
    show Code.wp Yba.prog _ _ _ _
    refine wp_region_lit ?_
    refine kl hK 751 rfl (by decide) rfl (fun ρ hρ => r_move _ rfl (hρ _ _ rfl)) ?_
    clear hK a; intro a hK
    refine kl hK 752 rfl (by decide) rfl (fun ρ hρ => r_inc3 _ rfl (by omega) (hρ _ _ rfl) (hρ _ _ rfl)) ?_
    clear hK a; intro a hK
    refine kl hK 59 rfl (by decide) rfl (fun ρ hρ => r_assign _ rfl (hρ _ _ rfl)) ?_
    clear hK a; intro a hK
    refine wpList_nil ?_
    exact hR ((I.R i).nh - (j + 1)) _ _ (by omega) ⟨j + 1, hjl, rfl, hK.sub ⟨rfl, rfl, rfl, rfl, rfl, rfl, rfl, rfl, rfl, rfl, rfl, rfl, rfl, rfl, rfl, rfl, rfl, rfl, rfl, trivial⟩, hS.touch0 ((Touch.refl _ _).drewN _)⟩
  · refine wp_cond_false (by rw [hK.rho (.tmp 750) _ rfl]; exact congrArg Value.bool (decide_eq_false hjl)) ?_
    refine wp_exit ?_
    exact hKK _ _ (hK.sub ⟨rfl, rfl, rfl, rfl, rfl, rfl, rfl, rfl, rfl, rfl, rfl, rfl, rfl, rfl, rfl, rfl, rfl, trivial⟩) hS

set_option maxRecDepth 100000 in
set_option maxHeartbeats 1000000 in
theorem loop26 (I : Inp) (w0 : World) (hA : I.At w0) (hF : I.Fine) (lab : Lab) (A : Adr) (psB mbB tsB rsB : Nat) (B : MB) (ks vs : Nat → Value) (rqv wtv : Value) (β : Nat → Int) (hlr : I.lr ≤ 4096) (hnh : ∀ i, i < I.lr → (I.R i).nh ≤ 4096) (Q : Exit → Act → World → Prop) (K : Act → World → Prop) (hKK : ∀ a w, Kn 831 (L3 I psB mbB tsB rsB B I.lr rqv wtv) a → FS I w0 lab w A psB mbB tsB rsB B ks vs rqv wtv β → K a w) (a : Act) (w : World) (hK : Kn 831 ((57, .int .i64 (0 : Nat)) :: L3 I psB mbB tsB rsB B I.lr rqv wtv) a) (hS : FS I w0 lab w A psB mbB tsB rsB B ks vs rqv wtv β) :
    Code.wp Yba.prog (nav [1, 1, 1, 1, 1, 1, 1, 1, 1, 1, 1, 1, 1, 1, 1, 1, 1, 1, 1, 1, 1, 1, 1, 1, 1, 0, 1] (Yba.f3.body.getD .skip)) (Exit.then K Q) a w := by
  refine loop_n K (fun n a w => ∃ i, i ≤ I.lr ∧ n = I.lr - i ∧ Kn 831 ((57, .int .i64 (i : Nat)) :: L3 I psB mbB tsB rsB B I.lr rqv wtv) a ∧ FS I w0 lab w A psB mbB tsB rsB B ks vs rqv wtv β) ⟨0, Nat.zero_le _, rfl, hK, hS⟩ ?_
  clear hK hS a w
  rintro n a w R ⟨i, hi, hn, hK, hS⟩ hR
  refine wp_seq ?_
  refine wp_seq ?_
  refine wp_region_lit ?_
  refine kl hK 678 rfl (by decide) rfl (fun ρ hρ => r_move _ rfl (hρ _ _ rfl)) ?_
  clear hK a; intro a hK
  refine kl hK 679 rfl (by decide) rfl (fun ρ hρ => r_move _ rfl (hρ _ _ rfl)) ?_
  clear hK a; intro a hK
  refine kl hK 680 rfl (by decide) rfl (fun ρ hρ => r_len24 _ rfl (hρ _ _ rfl)) ?_
  clear hK a; intro a hK
  refine kl hK 681 rfl (by decide) rfl (fun ρ hρ => r_lss3 _ _ rfl (hρ _ _ rfl) (hρ _ _ rfl)) ?_
  clear hK a; intro a hK
  refine wpList_nil ?_
  show Code.wp Yba.prog _ _ _ _
  by_cases hil : i < I.lr
  · have hrec := hS.recs i hil
    obtain ⟨f, f1, f2, f4, f9, f10, -⟩ := hrec.obj
    have c2 := f1.cell (i := 2) (by omega)
    have c4 : w.cell? ⟨A.ra i, 4, none⟩ = some (.int .i64 (I.R i).heap) := by
      have := f1.cell (i := 4) (by omega)
      rw [f4] at this
      exact this
    have c9 := f1.cell (i := 9) (by omega)
    have c10 := f1.cell (i := 10) (by omega)
    obtain ⟨sa, sc, hsv⟩ := hrec.held.slice
    obtain ⟨wa, wc, hwv⟩ := hrec.wait.slice
    rw [f2] at c2
    rw [f9, hsv] at c9
    rw [f10, hwv] at c10
    obtain ⟨b, off, hp, hb, i0, i1, -, i3, i4⟩ := (hA.below hS.labs.bel).recs i hil
    have f0 := hF.rpg i hil
    have hnp0 := I.D_fine.np
    have hpn : (I.R i).pg % I.D.np < I.D.np := Nat.mod_lt _ hnp0
    have cps : w.cell? ⟨psB, (I.R i).pg % I.D.np, none⟩ = some (ptr (A.pa (I.D.p i))) := hS.pcell hpn
    have cr := hS.rrs.cell (i := i) hil
    refine wp_cond_true (by rw [hK.rho (.tmp 681) _ rfl, decide_eq_true hil]) ?_
    refine wp_skip ?_
    show Code.wp Yba.prog _ _ _ _
    replace hK := hK.sub (M := (57, .int .i64 (i : Nat)) :: L3 I psB mbB tsB rsB B I.lr rqv wtv) ⟨rfl, rfl, rfl, rfl, rfl, rfl, rfl, rfl, rfl, rfl, rfl, rfl, rfl, rfl, rfl, rfl, rfl, trivial⟩
    refine wp_seq ?_
    refine wp_block ?_
    refine wp_seq ?_
    refine wp_region_lit ?_
    refine kl hK 684 rfl (by decide) rfl (fun ρ hρ => r_move _ rfl (hρ _ _ rfl)) ?_
    clear hK a; intro a hK
    refine kl hK 685 rfl (by decide) rfl (fun ρ hρ => r_move _ rfl (hρ _ _ rfl)) ?_
    clear hK a; intro a hK
    refine kl hK 686 rfl (by decide) rfl (fun ρ hρ => r_idx66 _ _ rfl hil (hρ _ _ rfl) (hρ _ _ rfl)) ?_
    clear hK a; intro a hK
    refine kl hK 687 rfl (by decide) rfl (fun ρ hρ => r_ld39 _ rfl (hρ _ _ rfl) cr) ?_
    clear hK a; intro a hK
    refine kl hK 58 rfl (by decide) rfl (fun ρ hρ => r_assign _ rfl (hρ _ _ rfl)) ?_
    clear hK a; intro a hK
    refine wpList_nil ?_
    show Code.wp Yba.prog _ _ _ _
    replace hK := hK.sub (M := (58, ptr (A.ra i)) :: (57, .int .i64 (i : Nat)) :: L3 I psB mbB tsB rsB B I.lr rqv wtv) ⟨rfl, rfl, rfl, rfl, rfl, rfl, rfl, rfl, rfl, rfl, rfl, rfl, rfl, rfl, rfl, rfl, rfl, rfl, trivial⟩
    refine wp_seq ?_
    refine wp_seq ?_
    refine wp_region_quiet_lit (by kernel_rfl) (by kernel_rfl) ?_
    refine kq hK 688 rfl (by decide) rfl (fun ρ hρ w' hw' => r_move _ rfl (hρ _ _ rfl)) ?_
    clear hK a; intro a hK
    refine kq hK 689 rfl (by decide) rfl (fun ρ hρ w' hw' => r_nil _ rfl (hρ _ _ rfl)) ?_
    clear hK a; intro a hK
    refine kq hK 690 rfl (by decide) rfl (fun ρ hρ w' hw' => r_fo72_2 _ rfl (hρ _ _ rfl)) ?_
    clear hK a; intro a hK
    refine kq hK 691 rfl (by decide) rfl (fun ρ hρ w' hw' => r_ld37 _ rfl (hρ _ _ rfl) (by obtain ⟨n, rfl⟩ := hw'; exact c2)) ?_
    clear hK a; intro a hK
    refine kq hK 692 rfl (by decide) rfl (fun ρ hρ w' hw' => r_move _ rfl (hρ _ _ rfl)) ?_
    clear hK a; intro a hK
    refine kq hK 693 rfl (by decide) rfl (fun ρ hρ w' hw' => r_move _ rfl (hρ _ _ rfl)) ?_
    clear hK a; intro a hK
    refine kq hK 694 rfl (by decide) rfl (fun ρ hρ w' hw' => r_move _ rfl (hρ _ _ rfl)) ?_
    clear hK a; intro a hK
    refine kq hK 695 rfl (by decide) rfl (fun ρ hρ w' hw' => r_ix24p _ _ rfl hp hil (hρ _ _ rfl) (hρ _ _ rfl)) ?_
    clear hK a; intro a hK
    refine kq hK 696 rfl (by decide) rfl (fun ρ hρ w' hw' => r_fa31_0 _ rfl (hρ _ _ rfl)) ?_
    clear hK a; intro a hK
    refine kq hK 697 rfl (by decide) rfl (fun ρ hρ w' hw' => r_ld5 _ rfl (hρ _ _ rfl) (by obtain ⟨n, rfl⟩ := hw'; exact i0)) ?_
    clear hK a; intro a hK
    refine kq hK 698 rfl (by decide) rfl (fun ρ hρ w' hw' => r_conv _ rfl f0 (hρ _ _ rfl)) ?_
    clear hK a; intro a hK
    refine kq hK 699 rfl (by decide) rfl (fun ρ hρ w' hw' => r_move _ rfl (hρ _ _ rfl)) ?_
    clear hK a; intro a hK
    refine kq hK 700 rfl (by decide) rfl (fun ρ hρ w' hw' => r_rem3 _ _ rfl hnp0 (hρ _ _ rfl) (hρ _ _ rfl)) ?_
    clear hK a; intro a hK
    refine kq hK 701 rfl (by decide) rfl (fun ρ hρ w' hw' => r_idx32 _ _ rfl hpn (hρ _ _ rfl) (hρ _ _ rfl)) ?_
    clear hK a; intro a hK
    refine kq hK 702 rfl (by decide) rfl (fun ρ hρ w' hw' => r_ld37 _ rfl (hρ _ _ rfl) (by obtain ⟨n, rfl⟩ := hw'; exact cps)) ?_
    clear hK a; intro a hK
    refine kq hK 703 rfl (by decide) rfl (fun ρ hρ w' hw' => r_neq37 _ _ rfl (hρ _ _ rfl) (hρ _ _ rfl)) ?_
    clear hK a; intro a hK
    refine kq hK 704 rfl (by decide) rfl (fun ρ hρ w' hw' => r_move _ rfl (hρ _ _ rfl)) ?_
    clear hK a; intro a hK
    refine kqg hK 705 16 704 rfl (by decide) rfl (by kernel_rfl) rfl (fun ρ hρ w' hw' => r_move _ rfl (hρ _ _ rfl)) ?_
    clear hK a; intro a hK
    refine kqg hK 706 16 704 rfl (by decide) rfl (by kernel_rfl) rfl (fun ρ hρ w' hw' => r_nil _ rfl (hρ _ _ rfl)) ?_
    clear hK a; intro a hK
    refine kqg hK 707 16 704 rfl (by decide) rfl (by kernel_rfl) rfl (fun ρ hρ w' hw' => r_fo72_4 _ rfl (hρ _ _ rfl)) ?_
    clear hK a; intro a hK
    refine kqg hK 708 16 704 rfl (by decide) rfl (by kernel_rfl) rfl (fun ρ hρ w' hw' => r_ld3 _ rfl (hρ _ _ rfl) (by obtain ⟨n, rfl⟩ := hw'; exact c4)) ?_
    clear hK a; intro a hK
    refine kqg hK 709 16 704 rfl (by decide) rfl (by kernel_rfl) rfl (fun ρ hρ w' hw' => r_move _ rfl (hρ _ _ rfl)) ?_
    clear hK a; intro a hK
    refine kqg hK 710 16 704 rfl (by decide) rfl (by kernel_rfl) rfl (fun ρ hρ w' hw' => r_move _ rfl (hρ _ _ rfl)) ?_
    clear hK a; intro a hK
    refine kqg hK 711 16 704 rfl (by decide) rfl (by kernel_rfl) rfl (fun ρ hρ w' hw' => r_ix24p _ _ rfl hp hil (hρ _ _ rfl) (hρ _ _ rfl)) ?_
    clear hK a; intro a hK
    refine kqg hK 712 16 704 rfl (by decide) rfl (by kernel_rfl) rfl (fun ρ hρ w' hw' => r_fa31_1 _ rfl (hρ _ _ rfl)) ?_
    clear hK a; intro a hK
    refine kqg hK 713 16 704 rfl (by decide) rfl (by kernel_rfl) rfl (fun ρ hρ w' hw' => r_ld3 _ rfl (hρ _ _ rfl) (by obtain ⟨n, rfl⟩ := hw'; exact i1)) ?_
    clear hK a; intro a hK
    refine kqg hK 714 16 704 rfl (by decide) rfl (by kernel_rfl) rfl (fun ρ hρ w' hw' => r_neq3 _ _ rfl (hρ _ _ rfl) (hρ _ _ rfl)) ?_
    clear hK a; intro a hK
    refine kq hK 715 rfl (by decide) rfl (fun ρ hρ w' hw' => r_pick _ _ rfl (hρ _ _ rfl) (hρ _ _ rfl)) ?_
    clear hK a; intro a hK
    refine kq hK 716 rfl (by decide) rfl (fun ρ hρ w' hw' => r_move _ rfl (hρ _ _ rfl)) ?_
    clear hK a; intro a hK
    refine kqg hK 717 28 716 rfl (by decide) rfl (by kernel_rfl) rfl (fun ρ hρ w' hw' => r_move _ rfl (hρ _ _ rfl)) ?_
    clear hK a; intro a hK
    refine kqg hK 718 28 716 rfl (by decide) rfl (by kernel_rfl) rfl (fun ρ hρ w' hw' => r_nil _ rfl (hρ _ _ rfl)) ?_
    clear hK a; intro a hK
    refine kqg hK 719 28 716 rfl (by decide) rfl (by kernel_rfl) rfl (fun ρ hρ w' hw' => r_fo72_9 _ rfl (hρ _ _ rfl)) ?_
    clear hK a; intro a hK
    refine kqg hK 720 28 716 rfl (by decide) rfl (by kernel_rfl) rfl (fun ρ hρ w' hw' => r_ld49 _ rfl (hρ _ _ rfl) (by obtain ⟨n, rfl⟩ := hw'; exact c9)) ?_
    clear hK a; intro a hK
    refine kqg hK 721 28 716 rfl (by decide) rfl (by kernel_rfl) rfl (fun ρ hρ w' hw' => r_len49 _ rfl (hρ _ _ rfl)) ?_
    clear hK a; intro a hK
    refine kqg hK 722 28 716 rfl (by decide) rfl (by kernel_rfl) rfl (fun ρ hρ w' hw' => r_move _ rfl (hρ _ _ rfl)) ?_
    clear hK a; intro a hK
    refine kqg hK 723 28 716 rfl (by decide) rfl (by kernel_rfl) rfl (fun ρ hρ w' hw' => r_move _ rfl (hρ _ _ rfl)) ?_
    clear hK a; intro a hK
    refine kqg hK 724 28 716 rfl (by decide) rfl (by kernel_rfl) rfl (fun ρ hρ w' hw' => r_ix24p _ _ rfl hp hil (hρ _ _ rfl) (hρ _ _ rfl)) ?_
    clear hK a; intro a hK
    refine kqg hK 725 28 716 rfl (by decide) rfl (by kernel_rfl) rfl (fun ρ hρ w' hw' => r_fa31_3 _ rfl (hρ _ _ rfl)) ?_
    clear hK a; intro a hK
    refine kqg hK 726 28 716 rfl (by decide) rfl (by kernel_rfl) rfl (fun ρ hρ w' hw' => r_ld28 _ rfl (hρ _ _ rfl) (by obtain ⟨n, rfl⟩ := hw'; exact i3)) ?_
    clear hK a; intro a hK
    refine kqg hK 727 28 716 rfl (by decide) rfl (by kernel_rfl) rfl (fun ρ hρ w' hw' => r_len28 _ rfl (hρ _ _ rfl)) ?_
    clear hK a; intro a hK
    refine kqg hK 728 28 716 rfl (by decide) rfl (by kernel_rfl) rfl (fun ρ hρ w' hw' => r_neq3 _ _ rfl (hρ _ _ rfl) (hρ _ _ rfl)) ?_
    clear hK a; intro a hK
    refine kq hK 729 rfl (by decide) rfl (fun ρ hρ w' hw' => r_pick _ _ rfl (hρ _ _ rfl) (hρ _ _ rfl)) ?_
    clear hK a; intro a hK
    refine kq hK 730 rfl (by decide) rfl (fun ρ hρ w' hw' => r_move _ rfl (hρ _ _ rfl)) ?_
    clear hK a; intro a hK
    refine kqg hK 731 42 730 rfl (by decide) rfl (by kernel_rfl) rfl (fun ρ hρ w' hw' => r_move _ rfl (hρ _ _ rfl)) ?_
    clear hK a; intro a hK
    refine kqg hK 732 42 730 rfl (by decide) rfl (by kernel_rfl) rfl (fun ρ hρ w' hw' => r_nil _ rfl (hρ _ _ rfl)) ?_
    clear hK a; intro a hK
    refine kqg hK 733 42 730 rfl (by decide) rfl (by kernel_rfl) rfl (fun ρ hρ w' hw' => r_fo72_10 _ rfl (hρ _ _ rfl)) ?_
    clear hK a; intro a hK
    refine kqg hK 734 42 730 rfl (by decide) rfl (by kernel_rfl) rfl (fun ρ hρ w' hw' => r_ld67 _ rfl (hρ _ _ rfl) (by obtain ⟨n, rfl⟩ := hw'; exact c10)) ?_
    clear hK a; intro a hK
    refine kqg hK 735 42 730 rfl (by decide) rfl (by kernel_rfl) rfl (fun ρ hρ w' hw' => r_len67 _ rfl (hρ _ _ rfl)) ?_
    clear hK a; intro a hK
    refine kqg hK 736 42 730 rfl (by decide) rfl (by kernel_rfl) rfl (fun ρ hρ w' hw' => r_move _ rfl (hρ _ _ rfl)) ?_
    clear hK a; intro a hK
    refine kqg hK 737 42 730 rfl (by decide) rfl (by kernel_rfl) rfl (fun ρ hρ w' hw' => r_move _ rfl (hρ _ _ rfl)) ?_
    clear hK a; intro a hK
    refine kqg hK 738 42 730 rfl (by decide) rfl (by kernel_rfl) rfl (fun ρ hρ w' hw' => r_ix24p _ _ rfl hp hil (hρ _ _ rfl) (hρ _ _ rfl)) ?_
    clear hK a; intro a hK
    refine kqg hK 739 42 730 rfl (by decide) rfl (by kernel_rfl) rfl (fun ρ hρ w' hw' => r_fa31_4 _ rfl (hρ _ _ rfl)) ?_
    clear hK a; intro a hK
    refine kqg hK 740 42 730 rfl (by decide) rfl (by kernel_rfl) rfl (fun ρ hρ w' hw' => r_ld29 _ rfl (hρ _ _ rfl) (by obtain ⟨n, rfl⟩ := hw'; exact i4)) ?_
    clear hK a; intro a hK
    refine kqg hK 741 42 730 rfl (by decide) rfl (by kernel_rfl) rfl (fun ρ hρ w' hw' => r_len29 _ rfl (hρ _ _ rfl)) ?_
    clear hK a; intro a hK
    refine kqg hK 742 42 730 rfl (by decide) rfl (by kernel_rfl) rfl (fun ρ hρ w' hw' => r_neq3 _ _ rfl (hρ _ _ rfl) (hρ _ _ rfl)) ?_
    clear hK a; intro a hK
    refine kq hK 743 rfl (by decide) rfl (fun ρ hρ w' hw' => r_pick _ _ rfl (hρ _ _ rfl) (hρ _ _ rfl)) ?_
    clear hK a; intro a hK
    refine wpQuiet_nil ?_
    rintro w' ⟨n, rfl⟩
    show Code.wp Yba.prog _ _ _ _
    refine wp_cond_false (hK.rho (.tmp 743) _ rfl) ?_
    refine wp_skip ?_
    show Code.wp Yba.prog _ _ _ _
    refine wp_seq ?_
    refine wp_region_lit ?_
    refine kl hK 59 rfl (by decide) rfl (fun ρ hρ => r_assign _ rfl (hρ _ _ rfl)) ?_
    clear hK a; intro a hK
    refine wpList_nil ?_
    show Code.wp Yba.prog _ _ _ _
    refine wp_then ?_
    refine loop28 I w0 hA hF lab A psB mbB tsB rsB B ks vs rqv wtv β i hil (hnh i hil) _ _ ?_ a _ (hK.sub ⟨rfl, rfl, rfl, rfl, rfl, rfl, rfl, rfl, rfl, rfl, rfl, rfl, rfl, rfl, rfl, rfl, rfl, rfl, rfl, trivial⟩) (hS.touch0 ((Touch.refl _ _).drewN _))
    clear hK a
    intro a w' hK hS'
    show Code.wp Yba.prog _ _ _ _
    refine wp_region_lit ?_
    refine kl hK 682 rfl (by decide) rfl (fun ρ hρ => r_move _ rfl (hρ _ _ rfl)) ?_
    clear hK a; intro a hK
    refine kl hK 683 rfl (by decide) rfl (fun ρ hρ => r_inc3 _ rfl (by omega) (hρ _ _ rfl) (hρ _ _ rfl)) ?_
    clear hK a; intro a hK
    refine kl hK 57 rfl (by decide) rfl (fun ρ hρ => r_assign _ rfl (hρ _ _ rfl)) ?_
    clear hK a; intro a hK
    refine wpList_nil ?_
    exact hR (I.lr - (i + 1)) _ _ (by omega) ⟨i + 1, hil, rfl, hK.sub ⟨rfl, rfl, rfl, rfl, rfl, rfl, rfl, rfl, rfl, rfl, rfl, rfl, rfl, rfl, rfl, rfl, rfl, trivial⟩, hS'⟩
  · refine wp_cond_false (by rw [hK.rho (.tmp 681) _ rfl, decide_eq_false hil]) ?_
    refine wp_exit ?_
    exact hKK _ _ (hK.sub ⟨rfl, rfl, rfl, rfl, rfl, rfl, rfl, rfl, rfl, rfl, rfl, rfl, rfl, rfl, rfl, rfl, trivial⟩) hS

set_option maxRecDepth 100000 in
set_option maxHeartbeats 1000000 in
theorem loop30 (I : Inp) (w0 : World) (hA : I.At w0) (hF : I.Fine) (lab : Lab) (A : Adr) (psB mbB tsB rsB : Nat) (B : MB) (ks vs : Nat → Value) (rqv wtv : Value) (β : Nat → Int) (hlp : I.lp ≤ 4096) (Q : Exit → Act → World → Prop) (K : Act → World → Prop) (hKK : ∀ a w, Kn 831 (L3 I psB mbB tsB rsB B I.lr rqv wtv) a → FS I w0 lab w A psB mbB tsB rsB B ks vs rqv wtv β → K a w) (a : Act) (w : World) (hK : Kn 831 ((60, .int .i64 (0 : Nat)) :: L3 I psB mbB tsB rsB B I.lr rqv wtv) a) (hS : FS I w0 lab w A psB mbB tsB rsB B ks vs rqv wtv β) :
    Code.wp Yba.prog (nav [1, 1, 1, 1, 1, 1, 1, 1, 1, 1, 1, 1, 1, 1, 1, 1, 1, 1, 1, 1, 1, 1, 1, 1, 1, 1, 0, 1] (Yba.f3.body.getD .skip)) (Exit.then K Q) a w := by
  have hnp : I.D.np ≤ 4096 := by show (if I.lp = 0 then 1 else I.lp) ≤ 4096; split <;> omega
  refine loop_n K (fun n a w => ∃ i, i ≤ I.D.np ∧ n = I.D.np - i ∧ Kn 831 ((60, .int .i64 (i : Nat)) :: L3 I psB mbB tsB rsB B I.lr rqv wtv) a ∧ FS I w0 lab w A psB mbB tsB rsB B ks vs rqv wtv β) ⟨0, Nat.zero_le _, rfl, hK, hS⟩ ?_
  clear hK hS a w
  rintro n a w R ⟨i, hi, hn, hK, hS⟩ hR
  refine wp_seq ?_
  refine wp_seq ?_
  refine wp_region_lit ?_
  refine kl hK 787 rfl (by decide) rfl (fun ρ hρ => r_move _ rfl (hρ _ _ rfl)) ?_
  clear hK a; intro a hK
  refine kl hK 788 rfl (by decide) rfl (fun ρ hρ => r_move _ rfl (hρ _ _ rfl)) ?_
  clear hK a; intro a hK
  refine kl hK 789 rfl (by decide) rfl (fun ρ hρ => r_lss3 _ _ rfl (hρ _ _ rfl) (hρ _ _ rfl)) ?_
  clear hK a; intro a hK
  refine wpList_nil ?_
  show Code.wp Yba.prog _ _ _ _
  by_cases hil : i < I.D.np
  · have cp := hS.pcell hil
    obtain ⟨pg, f1, f2, fa, fc, f5⟩ := (hS.pg.pages i hil).2
    have c2 := f1.cell (i := 2) (by omega)
    have c5 := f1.cell (i := 5) (by omega)
    rw [f2] at c2
    rw [f5] at c5
    refine wp_cond_true (by rw [hK.rho (.tmp 789) _ rfl, decide_eq_true hil]) ?_
    refine wp_skip ?_
    show Code.wp Yba.prog _ _ _ _
    replace hK := hK.sub (M := (60, .int .i64 (i : Nat)) :: L3 I psB mbB tsB rsB B I.lr rqv wtv) ⟨rfl, rfl, rfl, rfl, rfl, rfl, rfl, rfl, rfl, rfl, rfl, rfl, rfl, rfl, rfl, rfl, rfl, trivial⟩
    refine wp_seq ?_
    refine wp_block ?_
    refine wp_seq ?_
    refine wp_region_lit ?_
    refine kl hK 61 rfl (by decide) rfl (fun ρ hρ => r_assign _ rfl (hρ _ _ rfl)) ?_
    clear hK a; intro a hK
    refine kl hK 62 rfl (by decide) rfl (fun ρ hρ => r_assign _ rfl (hρ _ _ rfl)) ?_
    clear hK a; intro a hK
    refine wpList_nil ?_
    show Code.wp Yba.prog _ _ _ _
    refine wp_seq ?_
    refine wp_seq ?_
    refine wp_region_lit ?_
    refine kl hK 792 rfl (by decide) rfl (fun ρ hρ => r_move _ rfl (hρ _ _ rfl)) ?_
    clear hK a; intro a hK
    refine kl hK 793 rfl (by decide) rfl (fun ρ hρ => r_move _ rfl (hρ _ _ rfl)) ?_
    clear hK a; intro a hK
    refine kl hK 794 rfl (by decide) rfl (fun ρ hρ => r_len22 _ rfl (hρ _ _ rfl)) ?_
    clear hK a; intro a hK
    refine kl hK 795 rfl (by decide) rfl (fun ρ hρ => r_lss3 _ _ rfl (hρ _ _ rfl) (hρ _ _ rfl)) ?_
    clear hK a; intro a hK
    refine wpList_nil ?_
    show Code.wp Yba.prog _ _ _ _
    by_cases hip : i < I.lp
    · obtain ⟨b, off, hp, hb, p0, p1⟩ := (hA.below hS.labs.bel).pages i hip
      have r1 := hF.pr i hip
      have r2 := hF.pf i hip
      have e1 : I.D.pr i = I.pr i % 512 := if_pos hip
      have e2 : I.D.pf i = I.pf i % 64 := if_pos hip
      refine wp_cond_true (by rw [hK.rho (.tmp 795) _ rfl, decide_eq_true hip]) ?_
      refine wp_seq ?_
      refine wp_region_lit ?_
      refine kl hK 796 rfl (by decide) rfl (fun ρ hρ => r_move _ rfl (hρ _ _ rfl)) ?_
      clear hK a; intro a hK
      refine kl hK 797 rfl (by decide) rfl (fun ρ hρ => r_move _ rfl (hρ _ _ rfl)) ?_
      clear hK a; intro a hK
      refine kl hK 798 rfl (by decide) rfl (fun ρ hρ => r_ix22p _ _ rfl hp hip (hρ _ _ rfl) (hρ _ _ rfl)) ?_
      clear hK a; intro a hK
      refine kl hK 799 rfl (by decide) rfl (fun ρ hρ => r_fa36_0 _ rfl (hρ _ _ rfl)) ?_
      clear hK a; intro a hK
      refine kl hK 800 rfl (by decide) rfl (fun ρ hρ => r_ld34 _ rfl (hρ _ _ rfl) p0) ?_
      clear hK a; intro a hK
      refine kl hK 801 rfl (by decide) rfl (fun ρ hρ => r_rem512 _ rfl (hρ _ _ rfl) (hρ _ _ rfl)) ?_
      clear hK a; intro a hK
      refine kl hK 802 rfl (by decide) rfl (fun ρ hρ => r_conv34 _ rfl (by omega) (hρ _ _ rfl)) ?_
      clear hK a; intro a hK
      refine kl hK 61 rfl (by decide) rfl (fun ρ hρ => r_assign _ rfl (hρ _ _ rfl)) ?_
      clear hK a; intro a hK
      refine wpList_nil ?_
      show Code.wp Yba.prog _ _ _ _
      refine wp_region_lit ?_
      refine kl hK 803 rfl (by decide) rfl (fun ρ hρ => r_move _ rfl (hρ _ _ rfl)) ?_
      clear hK a; intro a hK
      refine kl hK 804 rfl (by decide) rfl (fun ρ hρ => r_move _ rfl (hρ _ _ rfl)) ?_
      clear hK a; intro a hK
      refine kl hK 805 rfl (by decide) rfl (fun ρ hρ => r_ix22p _ _ rfl hp hip (hρ _ _ rfl) (hρ _ _ rfl)) ?_
      clear hK a; intro a hK
      refine kl hK 806 rfl (by decide) rfl (fun ρ hρ => r_fa36_1 _ rfl (hρ _ _ rfl)) ?_
      clear hK a; intro a hK
      refine kl hK 807 rfl (by decide) rfl (fun ρ hρ => r_ld5 _ rfl (hρ _ _ rfl) p1) ?_
      clear hK a; intro a hK
      refine kl hK 808 rfl (by decide) rfl (fun ρ hρ => r_rem64 _ rfl (hρ _ _ rfl) (hρ _ _ rfl)) ?_
      clear hK a; intro a hK
      refine kl hK 809 rfl (by decide) rfl (fun ρ hρ => r_conv _ rfl (by omega) (hρ _ _ rfl)) ?_
      clear hK a; intro a hK
      refine kl hK 62 rfl (by decide) rfl (fun ρ hρ => r_assign _ rfl (hρ _ _ rfl)) ?_
      clear hK a; intro a hK
      refine wpList_nil ?_
      show Code.wp Yba.prog _ _ _ _
      replace hK := hK.sub (M := (62, .int .i64 (I.D.pf i : Nat)) :: (61, .int .i64 (I.D.pr i : Nat)) :: (60, .int .i64 (i : Nat)) :: L3 I psB mbB tsB rsB B I.lr rqv wtv) ⟨(by rw [e2]; rfl), (by rw [e1]; rfl), rfl, rfl, rfl, rfl, rfl, rfl, rfl, rfl, rfl, rfl, rfl, rfl, rfl, rfl, rfl, rfl, rfl, trivial⟩
      refine wp_seq ?_
      refine wp_region_lit ?_
      refine kl hK 810 rfl (by decide) rfl (fun ρ hρ => r_move _ rfl (hρ _ _ rfl)) ?_
      clear hK a; intro a hK
      refine kl hK 811 rfl (by decide) rfl (fun ρ hρ => r_move _ rfl (hρ _ _ rfl)) ?_
      clear hK a; intro a hK
      refine kl hK 812 rfl (by decide) rfl (fun ρ hρ => r_idx32 _ _ rfl hil (hρ _ _ rfl) (hρ _ _ rfl)) ?_
      clear hK a; intro a hK
      refine kl hK 813 rfl (by decide) rfl (fun ρ hρ => r_ld37 _ rfl (hρ _ _ rfl) cp) ?_
      clear hK a; intro a hK
      refine kl hK 814 rfl (by decide) rfl (fun ρ hρ => r_nil _ rfl (hρ _ _ rfl)) ?_
      clear hK a; intro a hK
      refine kl hK 815 rfl (by decide) rfl (fun ρ hρ => r_fo41_2 _ rfl (hρ _ _ rfl)) ?_
      clear hK a; intro a hK
      refine kl hK 816 rfl (by decide) rfl (fun ρ hρ => r_ld3 _ rfl (hρ _ _ rfl) c2) ?_
      clear hK a; intro a hK
      refine kl hK 817 rfl (by decide) rfl (fun ρ hρ => r_move _ rfl (hρ _ _ rfl)) ?_
      clear hK a; intro a hK
      refine kl hK 818 rfl (by decide) rfl (fun ρ hρ => r_neq3 _ _ rfl (hρ _ _ rfl) (hρ _ _ rfl)) ?_
      clear hK a; intro a hK
      refine kl hK 819 rfl (by decide) rfl (fun ρ hρ => r_move _ rfl (hρ _ _ rfl)) ?_
      clear hK a; intro a hK
      refine klg hK 820 9 819 rfl (by decide) rfl (by kernel_rfl) rfl (fun ρ hρ => r_move _ rfl (hρ _ _ rfl)) ?_
      clear hK a; intro a hK
      refine klg hK 821 9 819 rfl (by decide) rfl (by kernel_rfl) rfl (fun ρ hρ => r_move _ rfl (hρ _ _ rfl)) ?_
      clear hK a; intro a hK
      refine klg hK 822 9 819 rfl (by decide) rfl (by kernel_rfl) rfl (fun ρ hρ => r_idx32 _ _ rfl hil (hρ _ _ rfl) (hρ _ _ rfl)) ?_
      clear hK a; intro a hK
      refine klg hK 823 9 819 rfl (by decide) rfl (by kernel_rfl) rfl (fun ρ hρ => r_ld37 _ rfl (hρ _ _ rfl) cp) ?_
      clear hK a; intro a hK
      refine klg hK 824 9 819 rfl (by decide) rfl (by kernel_rfl) rfl (fun ρ hρ => r_nil _ rfl (hρ _ _ rfl)) ?_
      clear hK a; intro a hK
      refine klg hK 825 9 819 rfl (by decide) rfl (by kernel_rfl) rfl (fun ρ hρ => r_fo41_5 _ rfl (hρ _ _ rfl)) ?_
      clear hK a; intro a hK
      refine klg hK 826 9 819 rfl (by decide) rfl (by kernel_rfl) rfl (fun ρ hρ => r_ld38 _ rfl (hρ _ _ rfl) c5) ?_
      clear hK a; intro a hK
      refine klg hK 827 9 819 rfl (by decide) rfl (by kernel_rfl) rfl (fun ρ hρ => r_len38 _ rfl (hρ _ _ rfl)) ?_
      clear hK a; intro a hK
      refine klg hK 828 9 819 rfl (by decide) rfl (by kernel_rfl) rfl (fun ρ hρ => r_move _ rfl (hρ _ _ rfl)) ?_
      clear hK a; intro a hK
      refine klg hK 829 9 819 rfl (by decide) rfl (by kernel_rfl) rfl (fun ρ hρ => r_neq3 _ _ rfl (hρ _ _ rfl) (hρ _ _ rfl)) ?_
      clear hK a; intro a hK
      refine kl hK 830 rfl (by decide) rfl (fun ρ hρ => r_pick _ _ rfl (hρ _ _ rfl) (hρ _ _ rfl)) ?_
      clear hK a; intro a hK
      refine wpList_nil ?_
      show Code.wp Yba.prog _ _ _ _
      refine wp_cond_false (hK.rho (.tmp 830) _ rfl) ?_
      refine wp_skip ?_
      show Code.wp Yba.prog _ _ _ _
      refine wp_region_lit ?_
      refine kl hK 790 rfl (by decide) rfl (fun ρ hρ => r_move _ rfl (hρ _ _ rfl)) ?_
      clear hK a; intro a hK
      refine kl hK 791 rfl (by decide) rfl (fun ρ hρ => r_inc3 _ rfl (by omega) (hρ _ _ rfl) (hρ _ _ rfl)) ?_
      clear hK a; intro a hK
      refine kl hK 60 rfl (by decide) rfl (fun ρ hρ => r_assign _ rfl (hρ _ _ rfl)) ?_
      clear hK a; intro a hK
      refine wpList_nil ?_
      exact hR (I.D.np - (i + 1)) _ _ (by omega) ⟨i + 1, hil, rfl, hK.sub ⟨rfl, rfl, rfl, rfl, rfl, rfl, rfl, rfl, rfl, rfl, rfl, rfl, rfl, rfl, rfl, rfl, rfl, trivial⟩, hS⟩
    · have e1 : I.D.pr i = 0 := if_neg hip
      have e2 : I.D.pf i = 0 := if_neg hip
      refine wp_cond_false (by rw [hK.rho (.tmp 795) _ rfl, decide_eq_false hip]) ?_
      refine wp_skip ?_
      show Code.wp Yba.prog _ _ _ _
      replace hK := hK.sub (M := (62, .int .i64 (I.D.pf i : Nat)) :: (61, .int .i64 (I.D.pr i : Nat)) :: (60, .int .i64 (i : Nat)) :: L3 I psB mbB tsB rsB B I.lr rqv wtv) ⟨(by rw [e2]; rfl), (by rw [e1]; rfl), rfl, rfl, rfl, rfl, rfl, rfl, rfl, rfl, rfl, rfl, rfl, rfl, rfl, rfl, rfl, rfl, rfl, trivial⟩
      refine wp_seq ?_
      refine wp_region_lit ?_
      refine kl hK 810 rfl (by decide) rfl (fun ρ hρ => r_move _ rfl (hρ _ _ rfl)) ?_
      clear hK a; intro a hK
      refine kl hK 811 rfl (by decide) rfl (fun ρ hρ => r_move _ rfl (hρ _ _ rfl)) ?_
      clear hK a; intro a hK
      refine kl hK 812 rfl (by decide) rfl (fun ρ hρ => r_idx32 _ _ rfl hil (hρ _ _ rfl) (hρ _ _ rfl)) ?_
      clear hK a; intro a hK
      refine kl hK 813 rfl (by decide) rfl (fun ρ hρ => r_ld37 _ rfl (hρ _ _ rfl) cp) ?_
      clear hK a; intro a hK
      refine kl hK 814 rfl (by decide) rfl (fun ρ hρ => r_nil _ rfl (hρ _ _ rfl)) ?_
      clear hK a; intro a hK
      refine kl hK 815 rfl (by decide) rfl (fun ρ hρ => r_fo41_2 _ rfl (hρ _ _ rfl)) ?_
      clear hK a; intro a hK
      refine kl hK 816 rfl (by decide) rfl (fun ρ hρ => r_ld3 _ rfl (hρ _ _ rfl) c2) ?_
      clear hK a; intro a hK
      refine kl hK 817 rfl (by decide) rfl (fun ρ hρ => r_move _ rfl (hρ _ _ rfl)) ?_
      clear hK a; intro a hK
      refine kl hK 818 rfl (by decide) rfl (fun ρ hρ => r_neq3 _ _ rfl (hρ _ _ rfl) (hρ _ _ rfl)) ?_
      clear hK a; intro a hK
      refine kl hK 819 rfl (by decide) rfl (fun ρ hρ => r_move _ rfl (hρ _ _ rfl)) ?_
      clear hK a; intro a hK
      refine klg hK 820 9 819 rfl (by decide) rfl (by kernel_rfl) rfl (fun ρ hρ => r_move _ rfl (hρ _ _ rfl)) ?_
      clear hK a; intro a hK
      refine klg hK 821 9 819 rfl (by decide) rfl (by kernel_rfl) rfl (fun ρ hρ => r_move _ rfl (hρ _ _ rfl)) ?_
      clear hK a; intro a hK
      refine klg hK 822 9 819 rfl (by decide) rfl (by kernel_rfl) rfl (fun ρ hρ => r_idx32 _ _ rfl hil (hρ _ _ rfl) (hρ _ _ rfl)) ?_
      clear hK a; intro a hK
      refine klg hK 823 9 819 rfl (by decide) rfl (by kernel_rfl) rfl (fun ρ hρ => r_ld37 _ rfl (hρ _ _ rfl) cp) ?_
      clear hK a; intro a hK
      refine klg hK 824 9 819 rfl (by decide) rfl (by kernel_rfl) rfl (fun ρ hρ => r_nil _ rfl (hρ _ _ rfl)) ?_
      clear hK a; intro a hK
      refine klg hK 825 9 819 rfl (by decide) rfl (by kernel_rfl) rfl (fun ρ hρ => r_fo41_5 _ rfl (hρ _ _ rfl)) ?_
      clear hK a; intro a hK
      refine klg hK 826 9 819 rfl (by decide) rfl (by kernel_rfl) rfl (fun ρ hρ => r_ld38 _ rfl (hρ _ _ rfl) c5) ?_
      clear hK a; intro a hK
      refine klg hK 827 9 819 rfl (by decide) rfl (by kernel_rfl) rfl (fun ρ hρ => r_len38 _ rfl (hρ _ _ rfl)) ?_
      clear hK a; intro a hK
      refine klg hK 828 9 819 rfl (by decide) rfl (by kernel_rfl) rfl (fun ρ hρ => r_move _ rfl (hρ _ _ rfl)) ?_
      clear hK a; intro a hK
      refine klg hK 829 9 819 rfl (by decide) rfl (by kernel_rfl) rfl (fun ρ hρ => r_neq3 _ _ rfl (hρ _ _ rfl) (hρ _ _ rfl)) ?_
      clear hK a; intro a hK
      refine kl hK 830 rfl (by decide) rfl (fun ρ hρ => r_pick _ _ rfl (hρ _ _ rfl) (hρ _ _ rfl)) ?_
      clear hK a; intro a hK
      refine wpList_nil ?_
      show Code.wp Yba.prog _ _ _ _
      refine wp_cond_false (hK.rho (.tmp 830) _ rfl) ?_
      refine wp_skip ?_
      show Code.wp Yba.prog _ _ _ _
      refine wp_region_lit ?_
      refine kl hK 790 rfl (by decide) rfl (fun ρ hρ => r_move _ rfl (hρ _ _ rfl)) ?_
      clear hK a; intro a hK
      refine kl hK 791 rfl (by decide) rfl (fun ρ hρ => r_inc3 _ rfl (by omega) (hρ _ _ rfl) (hρ _ _ rfl)) ?_
      clear hK a; intro a hK
      refine kl hK 60 rfl (by decide) rfl (fun ρ hρ => r_assign _ rfl (hρ _ _ rfl)) ?_
      clear hK a; intro a hK
      refine wpList_nil ?_
      exact hR (I.D.np - (i + 1)) _ _ (by omega) ⟨i + 1, hil, rfl, hK.sub ⟨rfl, rfl, rfl, rfl, rfl, rfl, rfl, rfl, rfl, rfl, rfl, rfl, rfl, rfl, rfl, rfl, rfl, trivial⟩, hS⟩
  · refine wp_cond_false (by rw [hK.rho (.tmp 789) _ rfl, decide_eq_false hil]) ?_
    refine wp_exit ?_
    exact hKK _ _ (hK.sub ⟨rfl, rfl, rfl, rfl, rfl, rfl, rfl, rfl, rfl, rfl, rfl, rfl, rfl, rfl, rfl, rfl, trivial⟩) hS
end Go.Proofs.Ybulkeyzg
