import Derived.Test.YbulkexuoN8
namespace Go.Proofs.Ybulkexuo
open Go.RowKit
set_option linter.unusedSimpArgs false
set_option linter.unusedVariables false

section
variable {ρ : Operand → Value} {o : Oper} {w : World}
theorem r_ld82 (x : Operand) (ho : o.op = .load 82 x) {b q : Nat} (h : ρ x = .pointer (some ⟨b, q, none⟩)) {v : Value} (hc : w.cell? ⟨b, q, none⟩ = some v) : (execOp ρ o).run Yba.prog w = .ok (.value v) w := by
  have u82 := Yba.underlying82
  unfold execOp; rw [ho]; simp only; go_simp
theorem r_mkf {fn : Fn} (x y : Operand) (ho : o.op = .makeFunc fn #[] #[x, y]) {u v : Value} (h : ρ x = u) (h' : ρ y = v) : (execOp ρ o).run Yba.prog w = .ok (.value (.func fn #[] #[u, v])) w := by
  unfold execOp; rw [ho]; simp only; go_simp
theorem r_callv17 (f x y : Operand) (ho : o.op = .call { callee := .value f, args := #[x, y], argTypes := #[21, 21] }) {c0 c1 a0 a1 : Value} (hf : ρ f = .func (.func 17) #[] #[c0, c1]) (h0 : ρ x = a0) (h1 : ρ y = a1) : (execOp ρ o).run Yba.prog w = .ok (.enter 17 #[a0, a1, c0, c1]) w := by
  unfold execOp; rw [ho]; simp only; go_simp
theorem r_callv20 (f x : Operand) (ho : o.op = .call { callee := .value f, args := #[x], argTypes := #[21] }) {c0 c1 a0 : Value} (hf : ρ f = .func (.func 20) #[] #[c0, c1]) (h0 : ρ x = a0) : (execOp ρ o).run Yba.prog w = .ok (.enter 20 #[a0, c0, c1]) w := by
  unfold execOp; rw [ho]; simp only; go_simp
theorem r_al82 (ho : o.op = .alloc 82) : (execOp ρ o).run Yba.prog w = .ok (.value (ptr w.heap.size)) (w.alloc (.cells #[.nilFunc] 82)) := by
  unfold ptr
  have u82 := Yba.underlying82
  unfold execOp; rw [ho]; simp only; go_simp
theorem r_st82 (x y : Operand) (ho : o.op = .store 82 x y) {fn : Fn} {f1 f2 : Array Value} (h : ρ x = ptr w.heap.size) (h' : ρ y = .func fn f1 f2) : (execOp ρ o).run Yba.prog (w.alloc (.cells #[.nilFunc] 82)) = .ok .skip (w.alloc (.cells #[.func fn f1 f2] 82)) := by
  unfold ptr at *
  have u82 := Yba.underlying82
  have hst : ∀ (a : Addr) (w : World) (m : Mode), (store a (.func fn f1 f2) m).run Yba.prog w = _ := fun a w m => run_store Yba.prog w a (.func fn f1 f2) m rfl
  unfold execOp; rw [ho]; simp only; go_simp
end
abbrev SQ := List Rs × Option (Nat → Bool)
/-- one check -/
def chk (D : PD) (S : SQ) (p : Nat) (n : Int) : SQ :=
  if D.off p D.gAt then S else if n < D.hcnt p then (if D.hpos p ≤ D.cval (D.hto p) then rz S.1 ⟨p, n, D.hcnt p, true⟩ else S.1, some (askQ S.2 (D.hto p))) else S


set_option maxRecDepth 100000 in
set_option maxHeartbeats 1000000 in
theorem check_any (D : PD) (hD : D.Fine) (F : Nat → Prop) (B0 arB gB : Nat) (hgF : F gB) (st : ST) (S : SQ) (p : Nat) (hp : p < D.N) (v : Int) (w0 : World) (hA : ARB D F B0 arB st S.1 S.2 w0) (hG : GV D arB w0 gB) (b3 b5 : Nat) (l3 : b3 < w0.heap.size) (l5 : b5 < w0.heap.size) (c3 : w0.cell? ⟨b3, 0, none⟩ = some (ptr arB)) (c5 : w0.cell? ⟨b5, 0, none⟩ = some (ptr gB)) (t3 : ¬ TSet arB st b3) (t5 : ¬ TSet arB st b5) :
    Calls Yba.prog 17 #[.int .i32 p, .int .i32 v, ptr b3, ptr b5] w0 fun e w' => e = .returned (.tuple #[]) ∧ ∃ st', ARB D F B0 arB st' (chk D S p v).1 (chk D S p v).2 w' ∧ Step arB st w0 st' w' := by
  refine calls_of_wp (c := Yba.f17.body.getD .skip) Yba.func17 (by kernel_rfl) ?_
  rw [Yba.ntmps17]
  have hK := kn_call [.int .i32 p, .int .i32 v, ptr b3, ptr b5] 45 (L := [(3, ptr b5), (2, ptr b3), (1, .int .i32 v), (0, .int .i32 p)]) ⟨rfl, rfl, rfl, rfl, trivial⟩ (by simp)
  generalize ({ tmps := [.int .i32 p, .int .i32 v, ptr b3, ptr b5].toArray ++ Array.replicate (45 - [.int .i32 p, .int .i32 v, ptr b3, ptr b5].toArray.size) undef, defers := [] } : Act) = a at *
  have hN := hD.N20
  obtain ⟨hb, hcap, k6, -, hHand⟩ := hA.ar.ck.ck.hand
  obtain ⟨e0, e1, e2, e3⟩ := hHand p hp
  have r1 := hcell_new D p w0
  have hb1 := bel_alloc (Below.refl w0.heap.size w0) (.cells #[.int .i32 (D.hto p), .int .i32 (D.hpos p), .int .i32 (D.hcnt p), .int .i32 (D.hat p)] 27)
  have hA1 := hA.below hb1
  have hSt1 : Step arB st w0 st (w0.alloc (.cells #[.int .i32 (D.hto p), .int .i32 (D.hpos p), .int .i32 (D.hcnt p), .int .i32 (D.hat p)] 27)) := Step.of_below hb1
  have hG1 := hG.step (hb1.block gB (hA.flt gB hgF))
  have hxT : ¬ TSet arB st w0.heap.size := fun h => Nat.lt_irrefl _ (hA.ar.tlt _ h)
  have c3' := (hb1.cell (p := ⟨b3, 0, none⟩) l3).trans c3
  have c5' := (hb1.cell (p := ⟨b5, 0, none⟩) l5).trans c5
  have m3 : b3 < (w0.alloc (.cells #[.int .i32 (D.hto p), .int .i32 (D.hpos p), .int .i32 (D.hcnt p), .int .i32 (D.hat p)] 27)).heap.size := Nat.lt_of_lt_of_le l3 hb1.size
  have m5 : b5 < (w0.alloc (.cells #[.int .i32 (D.hto p), .int .i32 (D.hpos p), .int .i32 (D.hcnt p), .int .i32 (D.hat p)] 27)).heap.size := Nat.lt_of_lt_of_le l5 hb1.size
  conv => arg 2; whnf
  refine wp_seq ?_
  refine wp_region_lit ?_
  refine kl hK 7 rfl (by decide) rfl (fun ρ hρ => r_ld51 _ rfl (hρ _ _ rfl) c3) ?_
  clear hK a; intro a hK
  refine kl hK 8 rfl (by decide) rfl (fun ρ hρ => r_nil _ rfl (hρ _ _ rfl)) ?_
  clear hK a; intro a hK
  refine kl hK 9 rfl (by decide) rfl (fun ρ hρ => r_fo56_2 _ rfl (hρ _ _ rfl)) ?_
  clear hK a; intro a hK
  refine kl hK 10 rfl (by decide) rfl (fun ρ hρ => r_ld25 _ rfl (hρ _ _ rfl) k6) ?_
  clear hK a; intro a hK
  refine kl hK 11 rfl (by decide) rfl (fun ρ hρ => r_mv _ rfl (hρ _ _ rfl)) ?_
  clear hK a; intro a hK
  refine kl hK 12 rfl (by decide) rfl (fun ρ hρ => r_ix25z _ _ rfl hp (hρ _ _ rfl) (hρ _ _ rfl)) ?_
  clear hK a; intro a hK
  refine kl hK 13 rfl (by decide) rfl (fun ρ hρ => r_ld27 _ rfl (hρ _ _ rfl) e0 e1 e2 e3) ?_
  clear hK a; intro a hK
  refine kl hK 6 rfl (by decide) rfl (fun ρ hρ => r_al27 rfl) ?_
  clear hK a; intro a hK
  refine kst hK rfl rfl (fun ρ hρ => r_st27 (w := w0) _ _ rfl (hρ _ _ rfl) (hρ _ _ rfl)) ?_
  refine wpList_nil ?_
  show Code.wp Yba.prog _ _ _ _
  generalize hw1 : w0.alloc (.cells #[.int .i32 (D.hto p), .int .i32 (D.hpos p), .int .i32 (D.hcnt p), .int .i32 (D.hat p)] 27) = w1 at *
  clear hw1
  have k0 : w1.cell? ⟨w0.heap.size, 0, none⟩ = some (.int .i32 (D.hto p)) := r1.cell (i := 0) (by omega)
  have k1 : w1.cell? ⟨w0.heap.size, 1, none⟩ = some (.int .i32 (D.hpos p)) := r1.cell (i := 1) (by omega)
  have k2 : w1.cell? ⟨w0.heap.size, 2, none⟩ = some (.int .i32 (D.hcnt p)) := r1.cell (i := 2) (by omega)
  have k3 : w1.cell? ⟨w0.heap.size, 3, none⟩ = some (.int .i32 (D.hat p)) := r1.cell (i := 3) (by omega)
  have g10 : w1.cell? ⟨gB, 10, none⟩ = some (.int .i32 D.gAt) := World.rowIs.cell hG1 (i := 10) (by omega)
  replace hK := hK.sub (M := (6, ptr w0.heap.size) :: (3, ptr b5) :: (2, ptr b3) :: (1, .int .i32 v) :: (0, .int .i32 p) :: []) ⟨rfl, rfl, rfl, rfl, rfl, trivial⟩
  refine wp_seq ?_
  refine wp_seq ?_
  by_cases h1 : D.hat p < 0
  · have hz : chk D S p v = S := if_pos (.inl h1)
    refine wp_region_quiet_lit (by kernel_rfl) (by kernel_rfl) ?_
    refine kq hK 14 rfl (by decide) rfl (fun ρ hρ w' hw' => r_fo27_3 _ rfl (hρ _ _ rfl)) ?_
    clear hK a; intro a hK
    refine kq hK 15 rfl (by decide) rfl (fun ρ hρ w' hw' => r_ld21 _ rfl (hρ _ _ rfl) (by obtain ⟨n, rfl⟩ := hw'; exact k3)) ?_
    clear hK a; intro a hK
    refine kq hK 16 rfl (by decide) rfl (fun ρ hρ w' hw' => r_lss21 _ _ rfl (hρ _ _ rfl) (hρ _ _ rfl)) ?_
    clear hK a; intro a hK
    refine kq hK 17 rfl (by decide) rfl (fun ρ hρ w' hw' => r_mv _ rfl (hρ _ _ rfl)) ?_
    clear hK a; intro a hK
    refine kqu hK 18 3 17 rfl (by decide) rfl (by kernel_rfl) rfl (decide_eq_true h1) ?_
    clear hK a; intro a hK
    refine kqu hK 19 3 17 rfl (by decide) rfl (by kernel_rfl) rfl (decide_eq_true h1) ?_
    clear hK a; intro a hK
    refine kqu hK 20 3 17 rfl (by decide) rfl (by kernel_rfl) rfl (decide_eq_true h1) ?_
    clear hK a; intro a hK
    refine kqu hK 21 3 17 rfl (by decide) rfl (by kernel_rfl) rfl (decide_eq_true h1) ?_
    clear hK a; intro a hK
    refine kqu hK 22 3 17 rfl (by decide) rfl (by kernel_rfl) rfl (decide_eq_true h1) ?_
    clear hK a; intro a hK
    refine kqu hK 23 3 17 rfl (by decide) rfl (by kernel_rfl) rfl (decide_eq_true h1) ?_
    clear hK a; intro a hK
    refine kqu hK 24 3 17 rfl (by decide) rfl (by kernel_rfl) rfl (decide_eq_true h1) ?_
    clear hK a; intro a hK
    refine kq hK 25 rfl (by decide) rfl (fun ρ hρ w' hw' => r_pickT _ _ _ rfl (decide_eq_true h1) (hρ _ _ rfl) (hρ _ _ rfl)) ?_
    clear hK a; intro a hK
    refine wpQuiet_nil ?_
    rintro w' ⟨n, rfl⟩
    show Code.wp Yba.prog _ _ _ _
    refine wp_cond_true (hK.rho (.tmp 25) _ rfl) ?_
    refine wp_ret ?_
    try simp only [Exit.inBlock, Exit.then]
    exact kret0 hK rfl ⟨rfl, st, by rw [hz]; exact hA1.below (bel_drewN (Below.refl _ w1) _), hSt1.trans (Step.of_below (bel_drewN (Below.refl _ w1) _))⟩
  · by_cases h2 : D.gAt < D.hat p
    · have hz : chk D S p v = S := if_pos (.inr h2)
      refine wp_region_quiet_lit (by kernel_rfl) (by kernel_rfl) ?_
      refine kq hK 14 rfl (by decide) rfl (fun ρ hρ w' hw' => r_fo27_3 _ rfl (hρ _ _ rfl)) ?_
      clear hK a; intro a hK
      refine kq hK 15 rfl (by decide) rfl (fun ρ hρ w' hw' => r_ld21 _ rfl (hρ _ _ rfl) (by obtain ⟨n, rfl⟩ := hw'; exact k3)) ?_
      clear hK a; intro a hK
      refine kq hK 16 rfl (by decide) rfl (fun ρ hρ w' hw' => r_lss21 _ _ rfl (hρ _ _ rfl) (hρ _ _ rfl)) ?_
      clear hK a; intro a hK
      refine kq hK 17 rfl (by decide) rfl (fun ρ hρ w' hw' => r_mv _ rfl (hρ _ _ rfl)) ?_
      clear hK a; intro a hK
      refine kqg hK 18 3 17 rfl (by decide) rfl (by kernel_rfl) rfl (decide_eq_false h1) (fun ρ hρ w' hw' => r_fo27_3 _ rfl (hρ _ _ rfl)) ?_
      clear hK a; intro a hK
      refine kqg hK 19 3 17 rfl (by decide) rfl (by kernel_rfl) rfl (decide_eq_false h1) (fun ρ hρ w' hw' => r_ld21 _ rfl (hρ _ _ rfl) (by obtain ⟨n, rfl⟩ := hw'; exact k3)) ?_
      clear hK a; intro a hK
      refine kqg hK 20 3 17 rfl (by decide) rfl (by kernel_rfl) rfl (decide_eq_false h1) (fun ρ hρ w' hw' => r_ld59 _ rfl (hρ _ _ rfl) (by obtain ⟨n, rfl⟩ := hw'; exact c5')) ?_
      clear hK a; intro a hK
      refine kqg hK 21 3 17 rfl (by decide) rfl (by kernel_rfl) rfl (decide_eq_false h1) (fun ρ hρ w' hw' => r_nil _ rfl (hρ _ _ rfl)) ?_
      clear hK a; intro a hK
      refine kqg hK 22 3 17 rfl (by decide) rfl (by kernel_rfl) rfl (decide_eq_false h1) (fun ρ hρ w' hw' => r_fo62_4 _ rfl (hρ _ _ rfl)) ?_
      clear hK a; intro a hK
      refine kqg hK 23 3 17 rfl (by decide) rfl (by kernel_rfl) rfl (decide_eq_false h1) (fun ρ hρ w' hw' => r_ld21 _ rfl (hρ _ _ rfl) (by obtain ⟨n, rfl⟩ := hw'; exact g10)) ?_
      clear hK a; intro a hK
      refine kqg hK 24 3 17 rfl (by decide) rfl (by kernel_rfl) rfl (decide_eq_false h1) (fun ρ hρ w' hw' => r_gtr21 _ _ rfl (hρ _ _ rfl) (hρ _ _ rfl)) ?_
      clear hK a; intro a hK
      refine kq hK 25 rfl (by decide) rfl (fun ρ hρ w' hw' => r_pickE _ _ _ rfl (decide_eq_false h1) (hρ _ _ rfl) (hρ _ _ rfl)) ?_
      clear hK a; intro a hK
      refine wpQuiet_nil ?_
      rintro w' ⟨n, rfl⟩
      show Code.wp Yba.prog _ _ _ _
      refine wp_cond_true (by rw [hK.rho (.tmp 25) _ rfl]; exact congrArg Value.bool (decide_eq_true h2)) ?_
      refine wp_ret ?_
      try simp only [Exit.inBlock, Exit.then]
      exact kret0 hK rfl ⟨rfl, st, by rw [hz]; exact hA1.below (bel_drewN (Below.refl _ w1) _), hSt1.trans (Step.of_below (bel_drewN (Below.refl _ w1) _))⟩
    · have hof : ¬ D.off p D.gAt := fun h => by unfold PD.off at h; omega
      refine wp_region_quiet_lit (by kernel_rfl) (by kernel_rfl) ?_
      refine kq hK 14 rfl (by decide) rfl (fun ρ hρ w' hw' => r_fo27_3 _ rfl (hρ _ _ rfl)) ?_
      clear hK a; intro a hK
      refine kq hK 15 rfl (by decide) rfl (fun ρ hρ w' hw' => r_ld21 _ rfl (hρ _ _ rfl) (by obtain ⟨n, rfl⟩ := hw'; exact k3)) ?_
      clear hK a; intro a hK
      refine kq hK 16 rfl (by decide) rfl (fun ρ hρ w' hw' => r_lss21 _ _ rfl (hρ _ _ rfl) (hρ _ _ rfl)) ?_
      clear hK a; intro a hK
      refine kq hK 17 rfl (by decide) rfl (fun ρ hρ w' hw' => r_mv _ rfl (hρ _ _ rfl)) ?_
      clear hK a; intro a hK
      refine kqg hK 18 3 17 rfl (by decide) rfl (by kernel_rfl) rfl (decide_eq_false h1) (fun ρ hρ w' hw' => r_fo27_3 _ rfl (hρ _ _ rfl)) ?_
      clear hK a; intro a hK
      refine kqg hK 19 3 17 rfl (by decide) rfl (by kernel_rfl) rfl (decide_eq_false h1) (fun ρ hρ w' hw' => r_ld21 _ rfl (hρ _ _ rfl) (by obtain ⟨n, rfl⟩ := hw'; exact k3)) ?_
      clear hK a; intro a hK
      refine kqg hK 20 3 17 rfl (by decide) rfl (by kernel_rfl) rfl (decide_eq_false h1) (fun ρ hρ w' hw' => r_ld59 _ rfl (hρ _ _ rfl) (by obtain ⟨n, rfl⟩ := hw'; exact c5')) ?_
      clear hK a; intro a hK
      refine kqg hK 21 3 17 rfl (by decide) rfl (by kernel_rfl) rfl (decide_eq_false h1) (fun ρ hρ w' hw' => r_nil _ rfl (hρ _ _ rfl)) ?_
      clear hK a; intro a hK
      refine kqg hK 22 3 17 rfl (by decide) rfl (by kernel_rfl) rfl (decide_eq_false h1) (fun ρ hρ w' hw' => r_fo62_4 _ rfl (hρ _ _ rfl)) ?_
      clear hK a; intro a hK
      refine kqg hK 23 3 17 rfl (by decide) rfl (by kernel_rfl) rfl (decide_eq_false h1) (fun ρ hρ w' hw' => r_ld21 _ rfl (hρ _ _ rfl) (by obtain ⟨n, rfl⟩ := hw'; exact g10)) ?_
      clear hK a; intro a hK
      refine kqg hK 24 3 17 rfl (by decide) rfl (by kernel_rfl) rfl (decide_eq_false h1) (fun ρ hρ w' hw' => r_gtr21 _ _ rfl (hρ _ _ rfl) (hρ _ _ rfl)) ?_
      clear hK a; intro a hK
      refine kq hK 25 rfl (by decide) rfl (fun ρ hρ w' hw' => r_pickE _ _ _ rfl (decide_eq_false h1) (hρ _ _ rfl) (hρ _ _ rfl)) ?_
      clear hK a; intro a hK
      refine wpQuiet_nil ?_
      rintro w' ⟨n, rfl⟩
      show Code.wp Yba.prog _ _ _ _
      refine wp_cond_false (by rw [hK.rho (.tmp 25) _ rfl]; exact congrArg Value.bool (decide_eq_false h2)) ?_
      refine wp_skip ?_
      show Code.wp Yba.prog _ _ _ _
      have hbn := bel_drewN (Below.refl w1.heap.size w1) n
      replace hA1 := hA1.below hbn
      replace hSt1 := hSt1.trans (Step.of_below hbn)
      replace hG1 : GV D arB (w1.drewN n) gB := hG1
      replace c3' : (w1.drewN n).cell? ⟨b3, 0, none⟩ = some (ptr arB) := c3'
      replace c5' : (w1.drewN n).cell? ⟨b5, 0, none⟩ = some (ptr gB) := c5'
      replace r1 : (w1.drewN n).rowIs w0.heap.size 27 4 (D.hcell p) := r1
      replace k0 : (w1.drewN n).cell? ⟨w0.heap.size, 0, none⟩ = some (.int .i32 (D.hto p)) := k0
      replace k1 : (w1.drewN n).cell? ⟨w0.heap.size, 1, none⟩ = some (.int .i32 (D.hpos p)) := k1
      replace k2 : (w1.drewN n).cell? ⟨w0.heap.size, 2, none⟩ = some (.int .i32 (D.hcnt p)) := k2
      replace m3 : b3 < (w1.drewN n).heap.size := m3
      replace m5 : b5 < (w1.drewN n).heap.size := m5
      clear k3 g10 hbn
      generalize w1.drewN n = w2 at *
      clear hb1 w1
      replace hK := hK.sub (M := (6, ptr w0.heap.size) :: (3, ptr b5) :: (2, ptr b3) :: (1, .int .i32 v) :: (0, .int .i32 p) :: []) ⟨rfl, rfl, rfl, rfl, rfl, trivial⟩
      refine wp_seq ?_
      by_cases hn : v < D.hcnt p
      · have hy := hD.hto p hp
        refine wp_region_lit ?_
        refine kl hK 26 rfl (by decide) rfl (fun ρ hρ => r_mv _ rfl (hρ _ _ rfl)) ?_
        clear hK a; intro a hK
        refine kl hK 27 rfl (by decide) rfl (fun ρ hρ => r_fo27_2 _ rfl (hρ _ _ rfl)) ?_
        clear hK a; intro a hK
        refine kl hK 28 rfl (by decide) rfl (fun ρ hρ => r_ld21 _ rfl (hρ _ _ rfl) k2) ?_
        clear hK a; intro a hK
        refine kl hK 29 rfl (by decide) rfl (fun ρ hρ => r_lss21 _ _ rfl (hρ _ _ rfl) (hρ _ _ rfl)) ?_
        clear hK a; intro a hK
        refine kl hK 30 rfl (by decide) rfl (fun ρ hρ => r_mv _ rfl (hρ _ _ rfl)) ?_
        clear hK a; intro a hK
        refine klg hK 31 4 30 rfl (by decide) rfl (by kernel_rfl) rfl (decide_eq_true hn) (fun ρ hρ => r_ld59 _ rfl (hρ _ _ rfl) c5') ?_
        clear hK a; intro a hK
        refine klg hK 32 4 30 rfl (by decide) rfl (by kernel_rfl) rfl (decide_eq_true hn) (fun ρ hρ => r_fo27_0 _ rfl (hρ _ _ rfl)) ?_
        clear hK a; intro a hK
        refine klg hK 33 4 30 rfl (by decide) rfl (by kernel_rfl) rfl (decide_eq_true hn) (fun ρ hρ => r_ld21 _ rfl (hρ _ _ rfl) k0) ?_
        clear hK a; intro a hK
        refine klg hK 34 4 30 rfl (by decide) rfl (by kernel_rfl) rfl (decide_eq_true hn) (fun ρ hρ => r_fo27_1 _ rfl (hρ _ _ rfl)) ?_
        clear hK a; intro a hK
        refine klg hK 35 4 30 rfl (by decide) rfl (by kernel_rfl) rfl (decide_eq_true hn) (fun ρ hρ => r_ld21 _ rfl (hρ _ _ rfl) k1) ?_
        clear hK a; intro a hK
        refine kcg hK 36 4 30 rfl (by decide) rfl (by kernel_rfl) rfl (decide_eq_true hn) (fun ρ hρ => r_call18 _ _ _ rfl (hρ _ _ rfl) (hρ _ _ rfl) (hρ _ _ rfl) (hρ _ _ rfl)) (counts_any D hD F B0 arB gB hgF st S.1 S.2 (D.hto p) hy (D.hpos p) w2 hA1 hG1) ?_
        rintro e w3 ⟨rfl, st3, hA3, hSt3⟩
        refine ⟨_, rfl, ?_⟩
        clear hK a; intro a hK
        refine kl hK 37 rfl (by decide) rfl (fun ρ hρ => r_pickT _ _ _ rfl (decide_eq_true hn) (hρ _ _ rfl) (hρ _ _ rfl)) ?_
        clear hK a; intro a hK
        refine wpList_nil ?_
        show Code.wp Yba.prog _ _ _ _
        have x1 := hSt3.keep r1.lt hxT
        have x2 := hSt3.keep m3 t3
        have r3 := r1.of_block x1.1
        have k2' : w3.cell? ⟨w0.heap.size, 2, none⟩ = some (.int .i32 (D.hcnt p)) := r3.cell (i := 2) (by omega)
        have c3'' := (World.cell?_of_block (a := ⟨b3, 0, none⟩) x2.1).trans c3'
        by_cases hc : D.hpos p ≤ D.cval (D.hto p)
        · have hz : chk D S p v = (rz S.1 ⟨p, v, D.hcnt p, true⟩, some (askQ S.2 (D.hto p))) := by unfold chk; rw [if_neg hof, if_pos hn, if_pos hc]
          refine wp_cond_true (by rw [hK.rho (.tmp 37) _ rfl]; exact congrArg Value.bool (decide_eq_true hc)) ?_
          refine wp_region_lit ?_
          refine kl hK 38 rfl (by decide) rfl (fun ρ hρ => r_ld51 _ rfl (hρ _ _ rfl) c3'') ?_
          clear hK a; intro a hK
          refine kl hK 39 rfl (by decide) rfl (fun ρ hρ => r_mv _ rfl (hρ _ _ rfl)) ?_
          clear hK a; intro a hK
          refine kl hK 40 rfl (by decide) rfl (fun ρ hρ => r_mv _ rfl (hρ _ _ rfl)) ?_
          clear hK a; intro a hK
          refine kl hK 41 rfl (by decide) rfl (fun ρ hρ => r_fo27_2 _ rfl (hρ _ _ rfl)) ?_
          clear hK a; intro a hK
          refine kl hK 42 rfl (by decide) rfl (fun ρ hρ => r_ld21 _ rfl (hρ _ _ rfl) k2') ?_
          clear hK a; intro a hK
          refine kl hK 43 rfl (by decide) rfl (fun ρ hρ => r_b46_0123c _ _ _ rfl (hρ _ _ rfl) (hρ _ _ rfl) (hρ _ _ rfl) (hρ _ _ rfl)) ?_
          clear hK a; intro a hK
          refine kc hK 44 rfl (by decide) rfl (fun ρ hρ => r_call19 _ _ rfl (hρ _ _ rfl) (hρ _ _ rfl) (hρ _ _ rfl)) (raise_any D hD F B0 arB st3 S.1 (some (askQ S.2 (D.hto p))) ⟨p, v, D.hcnt p, true⟩ hp rfl w3 hA3) ?_
          rintro e w4 ⟨rfl, st4, hA4, hSt4⟩
          refine ⟨_, rfl, ?_⟩
          clear hK a; intro a hK
          refine wpList_nil ?_
          exact kend0 hK rfl ⟨rfl, st4, by rw [hz]; exact hA4, hSt1.trans (hSt3.trans hSt4)⟩
        · have hz : chk D S p v = (S.1, some (askQ S.2 (D.hto p))) := by unfold chk; rw [if_neg hof, if_pos hn, if_neg hc]
          refine wp_cond_false (by rw [hK.rho (.tmp 37) _ rfl]; exact congrArg Value.bool (decide_eq_false hc)) ?_
          refine wp_skip ?_
          exact kend0 hK rfl ⟨rfl, st3, by rw [hz]; exact hA3, hSt1.trans hSt3⟩
      · have hz : chk D S p v = S := by unfold chk; rw [if_neg hof, if_neg hn]
        refine wp_region_lit ?_
        refine kl hK 26 rfl (by decide) rfl (fun ρ hρ => r_mv _ rfl (hρ _ _ rfl)) ?_
        clear hK a; intro a hK
        refine kl hK 27 rfl (by decide) rfl (fun ρ hρ => r_fo27_2 _ rfl (hρ _ _ rfl)) ?_
        clear hK a; intro a hK
        refine kl hK 28 rfl (by decide) rfl (fun ρ hρ => r_ld21 _ rfl (hρ _ _ rfl) k2) ?_
        clear hK a; intro a hK
        refine kl hK 29 rfl (by decide) rfl (fun ρ hρ => r_lss21 _ _ rfl (hρ _ _ rfl) (hρ _ _ rfl)) ?_
        clear hK a; intro a hK
        refine kl hK 30 rfl (by decide) rfl (fun ρ hρ => r_mv _ rfl (hρ _ _ rfl)) ?_
        clear hK a; intro a hK
        refine klu hK 31 4 30 rfl (by decide) rfl (by kernel_rfl) rfl (decide_eq_false hn) ?_
        clear hK a; intro a hK
        refine klu hK 32 4 30 rfl (by decide) rfl (by kernel_rfl) rfl (decide_eq_false hn) ?_
        clear hK a; intro a hK
        refine klu hK 33 4 30 rfl (by decide) rfl (by kernel_rfl) rfl (decide_eq_false hn) ?_
        clear hK a; intro a hK
        refine klu hK 34 4 30 rfl (by decide) rfl (by kernel_rfl) rfl (decide_eq_false hn) ?_
        clear hK a; intro a hK
        refine klu hK 35 4 30 rfl (by decide) rfl (by kernel_rfl) rfl (decide_eq_false hn) ?_
        clear hK a; intro a hK
        refine klu hK 36 4 30 rfl (by decide) rfl (by kernel_rfl) rfl (decide_eq_false hn) ?_
        clear hK a; intro a hK
        refine kl hK 37 rfl (by decide) rfl (fun ρ hρ => r_pickE _ _ _ rfl (decide_eq_false hn) (hρ _ _ rfl) (hρ _ _ rfl)) ?_
        clear hK a; intro a hK
        refine wpList_nil ?_
        show Code.wp Yba.prog _ _ _ _
        refine wp_cond_false (hK.rho (.tmp 37) _ rfl) ?_
        refine wp_skip ?_
        exact kend0 hK rfl ⟨rfl, st, by rw [hz]; exact hA1, hSt1⟩

/-- the cells that the closures hold: 3 the arena, 4 the clock, 5 the joining, 6 'check' -/
structure CL (D : PD) (arB gB b3 b4 b5 b6 : Nat) (st : ST) (w : World) : Prop where
  l3 : b3 < w.heap.size
  l4 : b4 < w.heap.size
  l5 : b5 < w.heap.size
  l6 : b6 < w.heap.size
  c3 : w.cell? ⟨b3, 0, none⟩ = some (ptr arB)
  c4 : w.rowIs b4 58 6 (fun j => ((D.clk arB)[j]?).getD undef)
  c5 : w.cell? ⟨b5, 0, none⟩ = some (ptr gB)
  c6 : w.cell? ⟨b6, 0, none⟩ = some (.func (.func 17) #[] #[ptr b3, ptr b5])
  t3 : ¬ TSet arB st b3
  t4 : ¬ TSet arB st b4
  t5 : ¬ TSet arB st b5
  t6 : ¬ TSet arB st b6
theorem CL.step {D : PD} {arB gB b3 b4 b5 b6 : Nat} {st st' : ST} {w w' : World} (h : CL D arB gB b3 b4 b5 b6 st w) (hs : Step arB st w st' w') : CL D arB gB b3 b4 b5 b6 st' w' := by
  have x3 := hs.keep h.l3 h.t3
  have x4 := hs.keep h.l4 h.t4
  have x5 := hs.keep h.l5 h.t5
  have x6 := hs.keep h.l6 h.t6
  have L := hs.1.size
  exact ⟨Nat.lt_of_lt_of_le h.l3 L, Nat.lt_of_lt_of_le h.l4 L, Nat.lt_of_lt_of_le h.l5 L, Nat.lt_of_lt_of_le h.l6 L, (World.cell?_of_block (a := ⟨b3, 0, none⟩) x3.1).trans h.c3, h.c4.of_block x4.1, (World.cell?_of_block (a := ⟨b5, 0, none⟩) x5.1).trans h.c5, (World.cell?_of_block (a := ⟨b6, 0, none⟩) x6.1).trans h.c6, x3.2, x4.2, x5.2, x6.2⟩
theorem CL.cc {D : PD} {arB gB b3 b4 b5 b6 : Nat} {st : ST} {w : World} (h : CL D arB gB b3 b4 b5 b6 st w) : w.cell? ⟨b4, 0, none⟩ = some (ptr arB) ∧ w.cell? ⟨b4, 1, none⟩ = some (.int .i32 0) ∧ w.cell? ⟨b4, 2, none⟩ = some (.int .i32 D.ll) ∧ w.cell? ⟨b4, 3, none⟩ = some (.int .i32 D.asp) ∧ w.cell? ⟨b4, 4, none⟩ = some (.int .i32 D.asc) ∧ w.cell? ⟨b4, 5, none⟩ = some (.int .i32 D.aAt) :=
  ⟨h.c4.cell (i := 0) (by omega), h.c4.cell (i := 1) (by omega), h.c4.cell (i := 2) (by omega), h.c4.cell (i := 3) (by omega), h.c4.cell (i := 4) (by omega), h.c4.cell (i := 5) (by omega)⟩


set_option maxRecDepth 100000 in
set_option maxHeartbeats 1000000 in
theorem held_any (D : PD) (hD : D.Fine) (F : Nat → Prop) (B0 arB gB : Nat) (hgF : F gB) (st : ST) (S : SQ) (p : Nat) (hp : p < D.N) (w0 : World) (hA : ARB D F B0 arB st S.1 S.2 w0) (hG : GV D arB w0 gB) (b3 b4 b5 b6 : Nat) (hC : CL D arB gB b3 b4 b5 b6 st w0) :
    Calls Yba.prog 20 #[.int .i32 p, ptr b4, ptr b6] w0 fun e w' => e = .returned (.tuple #[]) ∧ ∃ st', ARB D F B0 arB st' (chk D S p (D.lkp p).1).1 (chk D S p (D.lkp p).1).2 w' ∧ Step arB st w0 st' w' := by
  refine calls_of_wp (c := Yba.f20.body.getD .skip) Yba.func20 (by kernel_rfl) ?_
  rw [Yba.ntmps20]
  have hK := kn_call [.int .i32 p, ptr b4, ptr b6] 16 (L := [(2, ptr b6), (1, ptr b4), (0, .int .i32 p)]) ⟨rfl, rfl, rfl, trivial⟩ (by simp)
  generalize ({ tmps := [.int .i32 p, ptr b4, ptr b6].toArray ++ Array.replicate (16 - [.int .i32 p, ptr b4, ptr b6].toArray.size) undef, defers := [] } : Act) = a at *
  obtain ⟨k0, k1, k2, k3, k4, k5⟩ := hC.cc
  conv => arg 2; whnf
  refine wp_seq ?_
  refine wp_region_lit ?_
  refine kl hK 7 rfl (by decide) rfl (fun ρ hρ => r_ld58z _ rfl (hρ _ _ rfl) k0 k1 k2 k3 k4 k5) ?_
  clear hK a; intro a hK
  refine kl hK 8 rfl (by decide) rfl (fun ρ hρ => r_mv _ rfl (hρ _ _ rfl)) ?_
  clear hK a; intro a hK
  refine kc hK 9 rfl (by decide) rfl (fun ρ hρ => r_call21 _ _ rfl (hρ _ _ rfl) (hρ _ _ rfl) (hρ _ _ rfl)) (clookup_any D hD arB p hp w0 hA.ar.ck.ck) ?_
  rintro e w1 ⟨rfl, hb1⟩
  refine ⟨_, rfl, ?_⟩
  clear hK a; intro a hK
  refine kl hK 6 rfl (by decide) rfl (fun ρ hρ => r_mv _ rfl (hρ _ _ rfl)) ?_
  clear hK a; intro a hK
  refine kl hK 10 rfl (by decide) rfl (fun ρ hρ => r_ext _ 0 rfl (hρ _ _ rfl) rfl) ?_
  clear hK a; intro a hK
  refine kl hK 11 rfl (by decide) rfl (fun ρ hρ => r_ext _ 1 rfl (hρ _ _ rfl) rfl) ?_
  clear hK a; intro a hK
  refine kl hK 4 rfl (by decide) rfl (fun ρ hρ => r_as _ rfl (hρ _ _ rfl)) ?_
  clear hK a; intro a hK
  refine kl hK 5 rfl (by decide) rfl (fun ρ hρ => r_as _ rfl (hρ _ _ rfl)) ?_
  clear hK a; intro a hK
  refine wpList_nil ?_
  show Code.wp Yba.prog _ _ _ _
  have hSt1 : Step arB st w0 st w1 := Step.of_below hb1
  have hC1 := hC.step hSt1
  have hA1 := hA.below hb1
  have hG1 := hG.step (hb1.block gB (hA.flt gB hgF))
  have c6 := hC1.c6
  refine wp_region_lit ?_
  refine kl hK 12 rfl (by decide) rfl (fun ρ hρ => r_ld82 _ rfl (hρ _ _ rfl) c6) ?_
  clear hK a; intro a hK
  refine kl hK 13 rfl (by decide) rfl (fun ρ hρ => r_mv _ rfl (hρ _ _ rfl)) ?_
  clear hK a; intro a hK
  refine kl hK 14 rfl (by decide) rfl (fun ρ hρ => r_mv _ rfl (hρ _ _ rfl)) ?_
  clear hK a; intro a hK
  refine kc hK 15 rfl (by decide) rfl (fun ρ hρ => r_callv17 _ _ _ rfl (hρ _ _ rfl) (hρ _ _ rfl) (hρ _ _ rfl)) (check_any D hD F B0 arB gB hgF st S p hp (D.lkp p).1 w1 hA1 hG1 b3 b5 hC1.l3 hC1.l5 hC1.c3 hC1.c5 hC1.t3 hC1.t5) ?_
  rintro e w2 ⟨rfl, st2, hA2, hSt2⟩
  refine ⟨_, rfl, ?_⟩
  clear hK a; intro a hK
  refine wpList_nil ?_
  exact kend0 hK rfl ⟨rfl, st2, hA2, hSt1.trans hSt2⟩
end Go.Proofs.Ybulkexuo
