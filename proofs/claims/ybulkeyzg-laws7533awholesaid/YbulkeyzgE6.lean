import Derived.Test.YbulkeyzgE3
namespace Go.Proofs.Ybulkeyzg
open Go.RowKit

section
variable {ρ : Operand → Value} {o : Oper} {w : World}
theorem r_make (t e : TypeId) (z : Value) (bytes : Nat) (hz : z.cells = #[z]) (hb : bytes ≤ 24) (ht : Yba.prog.underlying t = some (.slice e)) (hinfo : (Yba.prog.info? e).map (fun i => (i.zero, i.size, i.bytes)) = some (some z, 1, bytes))
    (x y : Operand) (ho : o.op = .makeSlice t x y) {n : Nat} (hn : n ≤ 4096) (h : ρ x = .int .i64 n) (h' : ρ y = .int .i64 n) : (execOp ρ o).run Yba.prog w = .ok (.value (.slice (some ⟨w.heap.size, 0, none⟩) n n)) (w.alloc (.cells (madeCells #[z] n) e)) := by
  obtain ⟨i, hi, hzz⟩ := Option.map_eq_some_iff.1 hinfo
  simp only [Prod.mk.injEq] at hzz
  obtain ⟨h1, h2, h3⟩ := hzz
  have hb' : (i.bytes : Int) * (n : Int) ≤ 281474976710656 := by
    have : i.bytes * n ≤ 24 * 4096 := Nat.mul_le_mul (by omega) hn
    have h : ((i.bytes * n : Nat) : Int) ≤ 281474976710656 := by omega
    rwa [Int.natCast_mul] at h
  have hr := run_make (P := Yba.prog) w t e i _ ht hi h1 .i64 .i64 n n (by omega) (Int.le_refl _) hb' (by omega)
  simp only [Int.toNat_natCast, h2, Nat.mul_one, hz] at hr
  unfold execOp; rw [ho]; simp only; go_simp
theorem r_eql0 (x : Operand) (ho : o.op = .binOp .eql 3 x (.const (.int .i64 0)) 3) {n : Nat} (h : ρ x = .int .i64 n) (hk : ρ (.const (.int .i64 0)) = .int .i64 0) : (execOp ρ o).run Yba.prog w = .ok (.value (.bool (decide (n = 0)))) w := by
  have u1 := Yba.underlying3
  have e : ((n : Int) == 0) = decide (n = 0) := by
    by_cases h0 : n = 0
    · subst h0; rfl
    · rw [decide_eq_false h0]
      exact beq_false_of_ne (by omega)
  unfold execOp; rw [ho]; simp only; go_simp
theorem r_len23 (x : Operand) (ho : o.op = .call { callee := .builtin .len, args := #[x], argTypes := #[23] }) {b : Option Addr} {n c : Nat} (h : ρ x = .slice b n c) : (execOp ρ o).run Yba.prog w = .ok (.value (.int .i64 n)) w := by
  have u1 := Yba.underlying23
  unfold execOp; rw [ho]; simp only; go_simp
end
theorem info37 : (Yba.prog.info? 37).map (fun i => (i.zero, i.size, i.bytes)) = some (some (.pointer none), 1, 8) := by kernel_rfl
theorem info3 : (Yba.prog.info? 3).map (fun i => (i.zero, i.size, i.bytes)) = some (some (.int .i64 0), 1, 8) := by kernel_rfl
theorem info45 : (Yba.prog.info? 45).map (fun i => (i.zero, i.size, i.bytes)) = some (some (.pointer none), 1, 8) := by kernel_rfl
theorem info65 : (Yba.prog.info? 65).map (fun i => (i.zero, i.size, i.bytes)) = some (some (.slice none 0 0), 1, 24) := by kernel_rfl
theorem info33 : (Yba.prog.info? 33).map (fun i => (i.zero, i.size, i.bytes)) = some (some (.slice none 0 0), 1, 24) := by kernel_rfl
theorem info39 : (Yba.prog.info? 39).map (fun i => (i.zero, i.size, i.bytes)) = some (some (.pointer none), 1, 8) := by kernel_rfl

/-- a row is made -/
theorem mk_row {w0 w : World} {lab : Lab} (hL : Labs w0 w lab) (e : TypeId) (z : Value) (n : Nat) (x : Tag) : Labs w0 (w.alloc (.cells (madeCells #[z] n) e)) (put1 lab w.heap.size x) ∧ Grow lab (put1 lab w.heap.size x) (fun _ => True) w (w.alloc (.cells (madeCells #[z] n) e)) ∧ (w.alloc (.cells (madeCells #[z] n) e)).rowIs w.heap.size e n (fun _ => z) := by
  have hT : Touch (fun _ => False) w (w.alloc (.cells (madeCells #[z] n) e)) := (Touch.refl _ _).alloc _
  have hs : (w.alloc (.cells (madeCells #[z] n) e)).heap.size = w.heap.size + 1 := by show (w.heap.push _).size = _; rw [Array.size_push]
  exact ⟨hL.put1 (hL.touch0 hT).bel hT.size x (Nat.le_refl _) (by omega), Grow.put1 (Same.none hL hT _) (hL.fresh (Nat.le_refl _)) x, World.rowIs_made w z n e⟩
def adr0 : Adr := ⟨fun _ => 0, fun _ => 0, fun _ => 0, fun _ => 0, fun _ _ => 0, fun _ => 0, fun _ => .slice none 0 0, fun _ => .slice none 0 0⟩

def L0 (I : Inp) : List (Nat × Value) := [(0, .slice I.p0 I.lp I.c0), (1, .slice I.p1 I.lt I.c1), (2, .slice I.p2 I.lr I.c2)]
def L1 (I : Inp) (psB mbB : Nat) : List (Nat × Value) := [(0, .slice I.p0 I.lp I.c0), (1, .slice I.p1 I.lt I.c1), (2, .slice I.p2 I.lr I.c2), (10, .int .i64 I.D.np), (11, .slice (some ⟨psB, 0, none⟩) I.D.np I.D.np), (12, .slice (some ⟨mbB, 0, none⟩) I.D.np I.D.np)]
def L2 (I : Inp) (psB mbB tsB : Nat) (B : MB) : List (Nat × Value) :=
  [(0, .slice I.p0 I.lp I.c0), (1, .slice I.p1 I.lt I.c1), (2, .slice I.p2 I.lr I.c2), (10, .int .i64 I.D.np), (11, .slice (some ⟨psB, 0, none⟩) I.D.np I.D.np), (12, .slice (some ⟨mbB, 0, none⟩) I.D.np I.D.np),
   (17, .int .i64 I.D.nt), (18, .slice (some ⟨tsB, 0, none⟩) I.D.nt I.D.nt), (19, .slice (some ⟨B.ms, 0, none⟩) I.D.nt I.D.nt), (20, .slice (some ⟨B.mf, 0, none⟩) I.D.nt I.D.nt), (21, .slice (some ⟨B.kb, 0, none⟩) I.D.nt I.D.nt), (22, .slice (some ⟨B.vb, 0, none⟩) I.D.nt I.D.nt)]
section
variable {I : Inp} {psB mbB tsB : Nat} {B : MB} {a : Act}
theorem Lv0.kn (h : Lv0 I a) : Kn 831 (L0 I) a := by
  refine Kn.of h.size h.defers ?_
  unfold L0
  simp only [List.mem_cons, List.not_mem_nil, or_false]
  rintro e (rfl | rfl | rfl)
  · exact h.s0
  · exact h.s1
  · exact h.s2
theorem Kn.lv0 (h : Kn 831 (L0 I) a) : Lv0 I a := ⟨h.size, h.defers, h.get 0 _ rfl, h.get 1 _ rfl, h.get 2 _ rfl⟩
theorem Lv1.kn (h : Lv1 I psB mbB a) : Kn 831 (L1 I psB mbB) a := by
  refine Kn.of h.size h.defers ?_
  unfold L1
  simp only [List.mem_cons, List.not_mem_nil, or_false]
  rintro e (rfl | rfl | rfl | rfl | rfl | rfl)
  · exact h.s0
  · exact h.s1
  · exact h.s2
  · exact h.s10
  · exact h.s11
  · exact h.s12
theorem Kn.lv1 (h : Kn 831 (L1 I psB mbB) a) : Lv1 I psB mbB a := ⟨⟨h.size, h.defers, h.get 0 _ rfl, h.get 1 _ rfl, h.get 2 _ rfl⟩, h.get 10 _ rfl, h.get 11 _ rfl, h.get 12 _ rfl⟩
theorem Lv2.kn (h : Lv2 I psB mbB tsB B a) : Kn 831 (L2 I psB mbB tsB B) a := by
  refine Kn.of h.size h.defers ?_
  unfold L2
  simp only [List.mem_cons, List.not_mem_nil, or_false]
  rintro e (rfl | rfl | rfl | rfl | rfl | rfl | rfl | rfl | rfl | rfl | rfl | rfl)
  · exact h.s0
  · exact h.s1
  · exact h.s2
  · exact h.s10
  · exact h.s11
  · exact h.s12
  · exact h.s17
  · exact h.s18
  · exact h.s19
  · exact h.s20
  · exact h.s21
  · exact h.s22
theorem Kn.lv2 (h : Kn 831 (L2 I psB mbB tsB B) a) : Lv2 I psB mbB tsB B a := ⟨⟨⟨h.size, h.defers, h.get 0 _ rfl, h.get 1 _ rfl, h.get 2 _ rfl⟩, h.get 10 _ rfl, h.get 11 _ rfl, h.get 12 _ rfl⟩, h.get 17 _ rfl, h.get 18 _ rfl, h.get 19 _ rfl, h.get 20 _ rfl, h.get 21 _ rfl, h.get 22 _ rfl⟩
end

set_option maxRecDepth 100000 in
theorem y7 (I : Inp) (w0 : World) (hlp : I.lp ≤ 4096) (Q : Exit → Act → World → Prop) (hnext : ∀ a w psB mbB, Lv1 I psB mbB a → (∃ lab A, Labs w0 w lab ∧ PG I lab w A psB mbB 0) → Code.wp Yba.prog (nav [1, 1, 1, 1, 1, 1, 1, 1, 1] (Yba.f3.body.getD .skip)) Q a w) (a : Act) (w : World) (hK : Kn 831 ((10, .int .i64 I.D.np) :: L0 I) a) (hb : Below w0.heap.size w0 w) :
    Code.wp Yba.prog (nav [1, 1, 1, 1, 1, 1, 1] (Yba.f3.body.getD .skip)) Q a w := by
  have hnp : I.D.np ≤ 4096 := by show (if I.lp = 0 then 1 else I.lp) ≤ 4096; split <;> omega
  have hL0 : Labs w0 w (fun _ => none) := ⟨hb, (fun _ _ h => by cases h), (fun _ _ h => by cases h)⟩
  obtain ⟨hL1, hG1, hr1⟩ := mk_row hL0 37 (.pointer none) I.D.np (1, 7, 0)
  obtain ⟨hL2, hG2, hr2⟩ := mk_row hL1 3 (.int .i64 0) I.D.np (1, 8, 0)
  conv => arg 2; whnf
  refine wp_seq ?_
  refine wp_region_lit ?_
  refine kl hK 119 rfl (by decide) rfl (fun ρ hρ => r_move _ rfl (hρ _ _ rfl)) ?_
  clear hK a; intro a hK
  refine kl hK 120 rfl (by decide) rfl (fun ρ hρ => r_make 32 37 (.pointer none) 8 rfl (by decide) Yba.underlying32 info37 _ _ rfl hnp (hρ _ _ rfl) (hρ _ _ rfl)) ?_
  clear hK a; intro a hK
  refine kl hK 11 rfl (by decide) rfl (fun ρ hρ => r_assign _ rfl (hρ _ _ rfl)) ?_
  clear hK a; intro a hK
  refine wpList_nil ?_
  show Code.wp Yba.prog _ _ _ _
  refine wp_seq ?_
  refine wp_region_lit ?_
  refine kl hK 121 rfl (by decide) rfl (fun ρ hρ => r_move _ rfl (hρ _ _ rfl)) ?_
  clear hK a; intro a hK
  refine kl hK 122 rfl (by decide) rfl (fun ρ hρ => r_make 33 3 (.int .i64 0) 8 rfl (by decide) Yba.underlying33 info3 _ _ rfl hnp (hρ _ _ rfl) (hρ _ _ rfl)) ?_
  clear hK a; intro a hK
  refine kl hK 12 rfl (by decide) rfl (fun ρ hρ => r_assign _ rfl (hρ _ _ rfl)) ?_
  clear hK a; intro a hK
  refine wpList_nil ?_
  show Code.wp Yba.prog _ _ _ _
  have t1 := put1_same (fun _ => none) w.heap.size (1, 7, 0)
  obtain ⟨t1, e1⟩ := hG2 _ _ t1 trivial
  refine hnext a _ w.heap.size (w.alloc (.cells (madeCells #[.pointer none] I.D.np) 37)).heap.size (Kn.lv1 (hK.sub ⟨rfl, rfl, rfl, rfl, rfl, rfl, trivial⟩)) ⟨_, adr0, hL2, t1, (hr1.of_block e1).congr fun j _ => (upto_zero _ _ _).symm, put1_same _ _ _, hr2.congr fun j _ => (upto_zero _ _ _).symm, fun p hp => absurd hp (Nat.not_lt_zero p)⟩

set_option maxRecDepth 100000 in
theorem y5 (I : Inp) (w0 : World) (hlp : I.lp ≤ 4096) (Q : Exit → Act → World → Prop) (hnext : ∀ a w psB mbB, Lv1 I psB mbB a → (∃ lab A, Labs w0 w lab ∧ PG I lab w A psB mbB 0) → Code.wp Yba.prog (nav [1, 1, 1, 1, 1, 1, 1, 1, 1] (Yba.f3.body.getD .skip)) Q a w) (a : Act) (w : World) (hK : Kn 831 (L0 I) a) (hb : Below w0.heap.size w0 w) :
    Code.wp Yba.prog (nav [1, 1, 1, 1, 1] (Yba.f3.body.getD .skip)) Q a w := by
  conv => arg 2; whnf
  refine wp_seq ?_
  refine wp_region_lit ?_
  refine kl hK 115 rfl (by decide) rfl (fun ρ hρ => r_move _ rfl (hρ _ _ rfl)) ?_
  clear hK a; intro a hK
  refine kl hK 116 rfl (by decide) rfl (fun ρ hρ => r_len22 _ rfl (hρ _ _ rfl)) ?_
  clear hK a; intro a hK
  refine kl hK 10 rfl (by decide) rfl (fun ρ hρ => r_assign _ rfl (hρ _ _ rfl)) ?_
  clear hK a; intro a hK
  refine wpList_nil ?_
  show Code.wp Yba.prog _ _ _ _
  refine wp_seq ?_
  refine wp_seq ?_
  refine wp_region_lit ?_
  refine kl hK 117 rfl (by decide) rfl (fun ρ hρ => r_move _ rfl (hρ _ _ rfl)) ?_
  clear hK a; intro a hK
  refine kl hK 118 rfl (by decide) rfl (fun ρ hρ => r_eql0 _ rfl (hρ _ _ rfl) (hρ _ _ rfl)) ?_
  clear hK a; intro a hK
  refine wpList_nil ?_
  show Code.wp Yba.prog _ _ _ _
  by_cases h0 : I.lp = 0
  · have hn : I.D.np = 1 := if_pos h0
    refine wp_cond_true (by rw [hK.rho (.tmp 118) _ rfl, decide_eq_true h0]) ?_
    refine wp_region_lit ?_
    refine kl hK 10 rfl (by decide) rfl (fun ρ hρ => r_assign _ rfl (hρ _ _ rfl)) ?_
    clear hK a; intro a hK
    refine wpList_nil ?_
    show Code.wp Yba.prog _ _ _ _
    exact y7 I w0 hlp Q hnext a w (hK.sub ⟨by rw [hn]; rfl, rfl, rfl, rfl, trivial⟩) hb
  · have hn : I.D.np = I.lp := if_neg h0
    refine wp_cond_false (by rw [hK.rho (.tmp 118) _ rfl, decide_eq_false h0]) ?_
    refine wp_skip ?_
    show Code.wp Yba.prog _ _ _ _
    exact y7 I w0 hlp Q hnext a w (hK.sub ⟨by rw [hn]; rfl, rfl, rfl, rfl, trivial⟩) hb

theorem Sl_nil (lab : Lab) (w : World) (N : Nat) (x : Tag) (e size : Nat) : Sl lab w N x e size (.slice none 0 0) 0 [] := ⟨⟨by simp, .inl ⟨rfl, rfl⟩⟩, fun g h => by cases h⟩

set_option maxRecDepth 100000 in
set_option maxHeartbeats 1000000 in
theorem y12 (I : Inp) (w0 : World) (hlt : I.lt ≤ 4096) (psB mbB : Nat) (Q : Exit → Act → World → Prop) (hnext : ∀ a w tsB B, Lv2 I psB mbB tsB B a → (∃ ta, TGS I w0 w psB mbB tsB B 0 0 ta (I.σh 0) (I.σh 0)) → Code.wp Yba.prog (nav [1, 1, 1, 1, 1, 1, 1, 1, 1, 1, 1, 1, 1, 1, 1, 1, 1] (Yba.f3.body.getD .skip)) Q a w) (a : Act) (w : World) (hK : Kn 831 ((17, .int .i64 I.D.nt) :: L1 I psB mbB) a) (lab : Lab) (A : Adr) (hL : Labs w0 w lab) (hP : PG I lab w A psB mbB I.D.np) :
    Code.wp Yba.prog (nav [1, 1, 1, 1, 1, 1, 1, 1, 1, 1, 1, 1] (Yba.f3.body.getD .skip)) Q a w := by
  have hnt : I.D.nt ≤ 4096 := by show (if I.lt = 0 then 1 else I.lt) ≤ 4096; split <;> omega
  obtain ⟨hL1, hG1, hr1⟩ := mk_row hL 45 (.pointer none) I.D.nt (1, 9, 0)
  have t1 := put1_same lab w.heap.size (1, 9, 0)
  have hP1 := hP.grow hG1 trivial
  generalize put1 lab w.heap.size (1, 9, 0) = lab1 at *
  conv => arg 2; whnf
  refine wp_seq ?_
  refine wp_region_lit ?_
  refine kl hK 172 rfl (by decide) rfl (fun ρ hρ => r_move _ rfl (hρ _ _ rfl)) ?_
  clear hK a; intro a hK
  refine kl hK 173 rfl (by decide) rfl (fun ρ hρ => r_make 42 45 (.pointer none) 8 rfl (by decide) Yba.underlying42 info45 _ _ rfl hnt (hρ _ _ rfl) (hρ _ _ rfl)) ?_
  clear hK a; intro a hK
  refine kl hK 18 rfl (by decide) rfl (fun ρ hρ => r_assign _ rfl (hρ _ _ rfl)) ?_
  clear hK a; intro a hK
  refine wpList_nil ?_
  show Code.wp Yba.prog _ _ _ _
  generalize hw1 : w.alloc (.cells (madeCells #[.pointer none] I.D.nt) 45) = w1 at *
  generalize w.heap.size = tsB at *
  obtain ⟨hL2, hG2, hr2⟩ := mk_row hL1 3 (.int .i64 0) I.D.nt (3, 0, 0)
  have t2 := put1_same lab1 w1.heap.size (3, 0, 0)
  replace hP1 := hP1.grow hG2 trivial
  replace hr1 := hr1.of_block (hG2 _ _ t1 trivial).2
  replace t1 := (hG2 _ _ t1 trivial).1
  generalize put1 lab1 w1.heap.size (3, 0, 0) = lab2 at *
  refine wp_seq ?_
  refine wp_region_lit ?_
  refine kl hK 174 rfl (by decide) rfl (fun ρ hρ => r_move _ rfl (hρ _ _ rfl)) ?_
  clear hK a; intro a hK
  refine kl hK 175 rfl (by decide) rfl (fun ρ hρ => r_make 33 3 (.int .i64 0) 8 rfl (by decide) Yba.underlying33 info3 _ _ rfl hnt (hρ _ _ rfl) (hρ _ _ rfl)) ?_
  clear hK a; intro a hK
  refine kl hK 19 rfl (by decide) rfl (fun ρ hρ => r_assign _ rfl (hρ _ _ rfl)) ?_
  clear hK a; intro a hK
  refine wpList_nil ?_
  show Code.wp Yba.prog _ _ _ _
  generalize hw2 : w1.alloc (.cells (madeCells #[.int .i64 0] I.D.nt) 3) = w2 at *
  generalize w1.heap.size = ms at *
  obtain ⟨hL3, hG3, hr3⟩ := mk_row hL2 3 (.int .i64 0) I.D.nt (3, 1, 0)
  have t3 := put1_same lab2 w2.heap.size (3, 1, 0)
  replace hP1 := hP1.grow hG3 trivial
  replace hr1 := hr1.of_block (hG3 _ _ t1 trivial).2
  replace t1 := (hG3 _ _ t1 trivial).1
  replace hr2 := hr2.of_block (hG3 _ _ t2 trivial).2
  replace t2 := (hG3 _ _ t2 trivial).1
  generalize put1 lab2 w2.heap.size (3, 1, 0) = lab3 at *
  refine wp_seq ?_
  refine wp_region_lit ?_
  refine kl hK 176 rfl (by decide) rfl (fun ρ hρ => r_move _ rfl (hρ _ _ rfl)) ?_
  clear hK a; intro a hK
  refine kl hK 177 rfl (by decide) rfl (fun ρ hρ => r_make 33 3 (.int .i64 0) 8 rfl (by decide) Yba.underlying33 info3 _ _ rfl hnt (hρ _ _ rfl) (hρ _ _ rfl)) ?_
  clear hK a; intro a hK
  refine kl hK 20 rfl (by decide) rfl (fun ρ hρ => r_assign _ rfl (hρ _ _ rfl)) ?_
  clear hK a; intro a hK
  refine wpList_nil ?_
  show Code.wp Yba.prog _ _ _ _
  generalize hw3 : w2.alloc (.cells (madeCells #[.int .i64 0] I.D.nt) 3) = w3 at *
  generalize w2.heap.size = mf at *
  obtain ⟨hL4, hG4, hr4⟩ := mk_row hL3 65 (.slice none 0 0) I.D.nt (3, 2, 0)
  have t4 := put1_same lab3 w3.heap.size (3, 2, 0)
  replace hP1 := hP1.grow hG4 trivial
  replace hr1 := hr1.of_block (hG4 _ _ t1 trivial).2
  replace t1 := (hG4 _ _ t1 trivial).1
  replace hr2 := hr2.of_block (hG4 _ _ t2 trivial).2
  replace t2 := (hG4 _ _ t2 trivial).1
  replace hr3 := hr3.of_block (hG4 _ _ t3 trivial).2
  replace t3 := (hG4 _ _ t3 trivial).1
  generalize put1 lab3 w3.heap.size (3, 2, 0) = lab4 at *
  refine wp_seq ?_
  refine wp_region_lit ?_
  refine kl hK 178 rfl (by decide) rfl (fun ρ hρ => r_move _ rfl (hρ _ _ rfl)) ?_
  clear hK a; intro a hK
  refine kl hK 179 rfl (by decide) rfl (fun ρ hρ => r_make 43 65 (.slice none 0 0) 24 rfl (by decide) Yba.underlying43 info65 _ _ rfl hnt (hρ _ _ rfl) (hρ _ _ rfl)) ?_
  clear hK a; intro a hK
  refine kl hK 21 rfl (by decide) rfl (fun ρ hρ => r_assign _ rfl (hρ _ _ rfl)) ?_
  clear hK a; intro a hK
  refine wpList_nil ?_
  show Code.wp Yba.prog _ _ _ _
  generalize hw4 : w3.alloc (.cells (madeCells #[.slice none 0 0] I.D.nt) 65) = w4 at *
  generalize w3.heap.size = kb at *
  obtain ⟨hL5, hG5, hr5⟩ := mk_row hL4 33 (.slice none 0 0) I.D.nt (3, 3, 0)
  have t5 := put1_same lab4 w4.heap.size (3, 3, 0)
  replace hP1 := hP1.grow hG5 trivial
  replace hr1 := hr1.of_block (hG5 _ _ t1 trivial).2
  replace t1 := (hG5 _ _ t1 trivial).1
  replace hr2 := hr2.of_block (hG5 _ _ t2 trivial).2
  replace t2 := (hG5 _ _ t2 trivial).1
  replace hr3 := hr3.of_block (hG5 _ _ t3 trivial).2
  replace t3 := (hG5 _ _ t3 trivial).1
  replace hr4 := hr4.of_block (hG5 _ _ t4 trivial).2
  replace t4 := (hG5 _ _ t4 trivial).1
  generalize put1 lab4 w4.heap.size (3, 3, 0) = lab5 at *
  refine wp_seq ?_
  refine wp_region_lit ?_
  refine kl hK 180 rfl (by decide) rfl (fun ρ hρ => r_move _ rfl (hρ _ _ rfl)) ?_
  clear hK a; intro a hK
  refine kl hK 181 rfl (by decide) rfl (fun ρ hρ => r_make 44 33 (.slice none 0 0) 24 rfl (by decide) Yba.underlying44 info33 _ _ rfl hnt (hρ _ _ rfl) (hρ _ _ rfl)) ?_
  clear hK a; intro a hK
  refine kl hK 22 rfl (by decide) rfl (fun ρ hρ => r_assign _ rfl (hρ _ _ rfl)) ?_
  clear hK a; intro a hK
  refine wpList_nil ?_
  show Code.wp Yba.prog _ _ _ _
  generalize hw5 : w4.alloc (.cells (madeCells #[.slice none 0 0] I.D.nt) 33) = w5 at *
  generalize w4.heap.size = vb at *
  refine hnext a _ tsB ⟨ms, mf, kb, vb⟩ (Kn.lv2 (hK.sub ⟨rfl, rfl, rfl, rfl, rfl, rfl, rfl, rfl, rfl, rfl, rfl, rfl, trivial⟩)) ⟨A.ta 0, lab5, A, fun _ => .slice none 0 0, fun _ => .slice none 0 0, rfl, hL5, hP1, t1, hr1.congr fun j _ => (upto_zero _ _ _).symm, ⟨t2, hr2, t3, hr3, t4, hr4, t5, hr5, fun _ _ => Sl_nil _ _ _ _ _ _, fun _ _ => Sl_nil _ _ _ _ _ _⟩, fun t ht => absurd ht (Nat.not_lt_zero t)⟩

set_option maxRecDepth 100000 in
theorem y10 (I : Inp) (w0 : World) (hlt : I.lt ≤ 4096) (psB mbB : Nat) (Q : Exit → Act → World → Prop) (hnext : ∀ a w tsB B, Lv2 I psB mbB tsB B a → (∃ ta, TGS I w0 w psB mbB tsB B 0 0 ta (I.σh 0) (I.σh 0)) → Code.wp Yba.prog (nav [1, 1, 1, 1, 1, 1, 1, 1, 1, 1, 1, 1, 1, 1, 1, 1, 1] (Yba.f3.body.getD .skip)) Q a w) (a : Act) (w : World) (h : M3 I w0 psB mbB a w) :
    Code.wp Yba.prog (nav [1, 1, 1, 1, 1, 1, 1, 1, 1, 1] (Yba.f3.body.getD .skip)) Q a w := by
  obtain ⟨hLv, lab, A, hL, hP⟩ := h
  have hK := hLv.kn
  clear hLv
  conv => arg 2; whnf
  refine wp_seq ?_
  refine wp_region_lit ?_
  refine kl hK 168 rfl (by decide) rfl (fun ρ hρ => r_move _ rfl (hρ _ _ rfl)) ?_
  clear hK a; intro a hK
  refine kl hK 169 rfl (by decide) rfl (fun ρ hρ => r_len23 _ rfl (hρ _ _ rfl)) ?_
  clear hK a; intro a hK
  refine kl hK 17 rfl (by decide) rfl (fun ρ hρ => r_assign _ rfl (hρ _ _ rfl)) ?_
  clear hK a; intro a hK
  refine wpList_nil ?_
  show Code.wp Yba.prog _ _ _ _
  refine wp_seq ?_
  refine wp_seq ?_
  refine wp_region_lit ?_
  refine kl hK 170 rfl (by decide) rfl (fun ρ hρ => r_move _ rfl (hρ _ _ rfl)) ?_
  clear hK a; intro a hK
  refine kl hK 171 rfl (by decide) rfl (fun ρ hρ => r_eql0 _ rfl (hρ _ _ rfl) (hρ _ _ rfl)) ?_
  clear hK a; intro a hK
  refine wpList_nil ?_
  show Code.wp Yba.prog _ _ _ _
  by_cases h0 : I.lt = 0
  · have hn : I.D.nt = 1 := if_pos h0
    refine wp_cond_true (by rw [hK.rho (.tmp 171) _ rfl, decide_eq_true h0]) ?_
    refine wp_region_lit ?_
    refine kl hK 17 rfl (by decide) rfl (fun ρ hρ => r_assign _ rfl (hρ _ _ rfl)) ?_
    clear hK a; intro a hK
    refine wpList_nil ?_
    show Code.wp Yba.prog _ _ _ _
    exact y12 I w0 hlt psB mbB Q hnext a w (hK.sub ⟨by rw [hn]; rfl, rfl, rfl, rfl, rfl, rfl, rfl, trivial⟩) lab A hL hP
  · have hn : I.D.nt = I.lt := if_neg h0
    refine wp_cond_false (by rw [hK.rho (.tmp 171) _ rfl, decide_eq_false h0]) ?_
    refine wp_skip ?_
    show Code.wp Yba.prog _ _ _ _
    exact y12 I w0 hlt psB mbB Q hnext a w (hK.sub ⟨by rw [hn]; rfl, rfl, rfl, rfl, rfl, rfl, rfl, trivial⟩) lab A hL hP

set_option maxRecDepth 100000 in
set_option maxHeartbeats 1000000 in
theorem y18 (I : Inp) (w0 : World) (hlr : I.lr ≤ 4096) (psB mbB tsB : Nat) (B : MB) (Q : Exit → Act → World → Prop) (hnext : ∀ a w rsB, Kn 831 ((31, .slice none 0 0) :: (30, .slice none 0 0) :: (29, .slice (some ⟨rsB, 0, none⟩) I.lr I.lr) :: L2 I psB mbB tsB B) a → HD10 I w0 psB mbB tsB rsB B 0 (.slice none 0 0) (.slice none 0 0) w → Code.wp Yba.prog (nav [1, 1, 1, 1, 1, 1, 1, 1, 1, 1, 1, 1, 1, 1, 1, 1, 1, 1, 1, 1, 1] (Yba.f3.body.getD .skip)) Q a w) (a : Act) (w : World) (h : M6 I w0 psB mbB tsB B a w) :
    Code.wp Yba.prog (nav [1, 1, 1, 1, 1, 1, 1, 1, 1, 1, 1, 1, 1, 1, 1, 1, 1, 1] (Yba.f3.body.getD .skip)) Q a w := by
  obtain ⟨hLv, ta, lab, A, ks, vs, -, hT⟩ := h
  have hK := hLv.kn
  clear hLv
  have hσ : ∀ t, t < I.D.nt → I.σh I.D.nt t = I.σ0 t := fun t ht => if_pos ht
  obtain ⟨hL1, hG1, hr1⟩ := mk_row hT.labs 39 (.pointer none) I.lr (1, 0, 0)
  conv => arg 2; whnf
  refine wp_seq ?_
  refine wp_region_lit ?_
  refine kl hK 316 rfl (by decide) rfl (fun ρ hρ => r_move _ rfl (hρ _ _ rfl)) ?_
  clear hK a; intro a hK
  refine kl hK 317 rfl (by decide) rfl (fun ρ hρ => r_len24 _ rfl (hρ _ _ rfl)) ?_
  clear hK a; intro a hK
  refine kl hK 318 rfl (by decide) rfl (fun ρ hρ => r_make 66 39 (.pointer none) 8 rfl (by decide) Yba.underlying66 info39 _ _ rfl hlr (hρ _ _ rfl) (hρ _ _ rfl)) ?_
  clear hK a; intro a hK
  refine kl hK 29 rfl (by decide) rfl (fun ρ hρ => r_assign _ rfl (hρ _ _ rfl)) ?_
  clear hK a; intro a hK
  refine wpList_nil ?_
  show Code.wp Yba.prog _ _ _ _
  refine wp_seq ?_
  refine wp_region_lit ?_
  refine kl hK 30 rfl (by decide) rfl (fun ρ hρ => r_assign _ rfl (hρ _ _ rfl)) ?_
  clear hK a; intro a hK
  refine wpList_nil ?_
  show Code.wp Yba.prog _ _ _ _
  refine wp_seq ?_
  refine wp_region_lit ?_
  refine kl hK 31 rfl (by decide) rfl (fun ρ hρ => r_assign _ rfl (hρ _ _ rfl)) ?_
  clear hK a; intro a hK
  refine wpList_nil ?_
  show Code.wp Yba.prog _ _ _ _
  refine hnext a _ w.heap.size (hK.sub ⟨rfl, rfl, rfl, rfl, rfl, rfl, rfl, rfl, rfl, rfl, rfl, rfl, rfl, rfl, rfl, trivial⟩) ⟨_, A, ks, vs, hL1, hT.pg.grow hG1 trivial, (hG1 _ _ hT.tts trivial).1, (hT.rts.congr fun j hj => upto_lt _ _ hj).of_block (hG1 _ _ hT.tts trivial).2, fun t ht => ?_, (hT.mod.congr (fun t ht => by rw [hσ t ht]; rfl) (fun t ht => by rw [hσ t ht]; rfl) (fun t ht => by rw [hσ t ht]; rfl) (fun t ht => by rw [hσ t ht]; rfl)).grow hG1 trivial, put1_same _ _ _, hr1.congr fun j _ => (upto_zero _ _ _).symm, fun i hi => absurd hi (Nat.not_lt_zero i), fun i hi => absurd hi (Nat.not_lt_zero i), Sl_nil _ _ _ _ _ _, Sl_nil _ _ _ _ _ _⟩
  have := (hT.trx.grow hG1 trivial) t ht
  rw [hσ t ht] at this
  exact this

theorem kret {w0 w : World} {a : Act} {L : List (Nat × Value)} (hK : Kn 831 L a) (h6 : lk L 6 = some (.bool true)) (hb : Below w0.heap.size w0 w) : bodyPost Yba.prog Yba.f3 (Post w0) .ret a w := by
  refine bodyPost_ret (results_tmp rfl _ _ _) hK.defers ⟨?_, hb⟩
  rw [Array.getD_eq_getD_getElem?, hK.get 6 _ h6]
  rfl

set_option maxRecDepth 100000 in
set_option maxHeartbeats 1000000 in
theorem y1 (I : Inp) (w0 : World) (K : Act → World → Prop) (hnext : ∀ a, Kn 831 (L0 I) a → I.lp ≤ 4096 → I.lt ≤ 4096 → I.lr ≤ 4096 → K a w0) (a : Act) (hL : Lv0 I a) :
    Code.wp Yba.prog (nav [1, 0] (Yba.f3.body.getD .skip)) (Exit.then K (bodyPost Yba.prog Yba.f3 (Post w0))) a w0 := by
  obtain ⟨x, rfl, hx⟩ := act_fr a hL.size hL.defers
  have e0 := hx _ _ hL.s0
  have e1 := hx _ _ hL.s1
  have e2 := hx _ _ hL.s2
  clear hx hL
  have HB : Hid (Below w0.heap.size w0 w0) := Below.refl _ _
  simp only [fr, Nat.reduceAdd, e0, e1, e2]
  clear e0 e1 e2
  conv => arg 2; whnf
  by_cases h0 : (4096 : Int) < I.lp
  · go_wp2_with fail
    go_ret
    exact ⟨rfl, HB.out⟩
  · by_cases h1 : (4096 : Int) < I.lt
    · go_wp2_with fail
      go_ret
      exact ⟨rfl, HB.out⟩
    · by_cases h2 : (4096 : Int) < I.lr
      · go_wp2_with fail
        go_ret
        exact ⟨rfl, HB.out⟩
      · go_wp2_with fail
        refine hnext _ (Lv0.kn ⟨rfl, rfl, rfl, rfl, rfl⟩) ?_ ?_ ?_ <;> omega
end Go.Proofs.Ybulkeyzg
