import Derived.Test.YbulkexuoS2
namespace Go.Proofs.Ybulkexuo
open Go.RowKit
set_option linter.unusedSimpArgs false
set_option linter.unusedVariables false

theorem eqn_run (w : World) (t e : TypeId) (a : Option Addr) (n c : Nat) (h : Yba.prog.underlying t = some (.slice e)) : (binOp .eql t (.slice a n c) (.slice none 0 0)).run Yba.prog w = .ok (.bool a.isNone) w := by
  have h' : ∀ d : Nat, (Op.equalIn (d + 1) t (.slice a n c) (.slice none 0 0)).run Yba.prog w = .ok a.isNone w := fun d => by
    cases a <;> simp [Op.equalIn, run_underlying h]
  simp only [binOp]
  simp [Op.equal, Op.maxDepth, h' 9999]
section
variable {ρ : Operand → Value} {o : Oper} {w : World}
theorem r_isnil (t e : TypeId) (ht : Yba.prog.underlying t = some (.slice e)) (x : Operand) (ho : o.op = .binOp .eql t x (.const (.slice none 0 0)) t) (h : ρ x = .slice none 0 0) (hk : ρ (.const (.slice none 0 0)) = .slice none 0 0) : (execOp ρ o).run Yba.prog w = .ok (.value (.bool true)) w := by
  have hn := eqn_run w t e none 0 0 ht
  unfold execOp; rw [ho]; simp only; go_simp
theorem r_notnil (t e : TypeId) (ht : Yba.prog.underlying t = some (.slice e)) (x : Operand) (ho : o.op = .binOp .eql t x (.const (.slice none 0 0)) t) {a : Addr} {n c : Nat} (h : ρ x = .slice (some a) n c) (hk : ρ (.const (.slice none 0 0)) = .slice none 0 0) : (execOp ρ o).run Yba.prog w = .ok (.value (.bool false)) w := by
  have hn := eqn_run w t e (some a) n c ht
  unfold execOp; rw [ho]; simp only; go_simp
end
/-- the end of a function without results -/
theorem kret0 {P : Program} {fn : Func} {w : World} {a : Act} {n : Nat} {L : List (Nat × Value)} {R : Ending → World → Prop} (hK : Kn n L a) (hr : fn.results = #[]) (h : R (.returned (.tuple #[])) w) : bodyPost P fn R .ret a w := bodyPost_ret (results_none hr _ _ _) hK.defers h
theorem kend0 {P : Program} {fn : Func} {w : World} {a : Act} {n : Nat} {L : List (Nat × Value)} {R : Ending → World → Prop} (hK : Kn n L a) (hr : fn.results = #[]) (h : R (.returned (.tuple #[])) w) : bodyPost P fn R .normal a w := bodyPost_end (results_none hr _ _ _) hK.defers h

/-- the arena between two calls -/
structure ARB (D : PD) (F : Nat → Prop) (B0 arB : Nat) (st : ST) (R : List Rs) (Qo : Option (Nat → Bool)) (w : World) : Prop where
  ar : AR D F B0 arB st R (ix R) Qo w
  nil : st.raV = .slice none 0 0 ↔ R = []
  wf : WF D.N R
  flt : ∀ b, F b → b < w.heap.size
theorem ARB.below {D : PD} {F : Nat → Prop} {B0 arB : Nat} {st : ST} {R : List Rs} {Qo : Option (Nat → Bool)} {w w' : World} (h : ARB D F B0 arB st R Qo w) (hb : Below w.heap.size w w') : ARB D F B0 arB st R Qo w' := ⟨h.ar.below hb, h.nil, h.wf, fun b hF => Nat.lt_of_lt_of_le (h.flt b hF) hb.size⟩
theorem AR.tlt {D : PD} {F : Nat → Prop} {B0 arB : Nat} {st : ST} {R : List Rs} {ri : Nat → Nat} {Qo : Option (Nat → Bool)} {w : World} (h : AR D F B0 arB st R ri Qo w) : ∀ b, TSet arB st b → b < w.heap.size := fun b hb => by
  rcases hb with rfl | hb | hb | hb | hb
  · exact h.arow
  · exact (h.rr.lt b hb).2
  · rcases h.ra with ⟨h2, _⟩ | ⟨c, h2, h5⟩
    · rw [h2] at hb; cases hb
    · rw [h2] at hb; cases hb; exact h5.lt
  · rcases h.cc with ⟨_, h2, _⟩ | ⟨Q, c, d, _, h2, _, _, h5, _⟩
    · rw [h2] at hb; cases hb
    · rw [h2] at hb; cases hb; exact h5.lt
  · rcases h.cc with ⟨_, _, h2⟩ | ⟨Q, c, d, _, _, h2, _, _, h5⟩
    · rw [h2] at hb; cases hb
    · rw [h2] at hb; cases hb; exact h5.lt
def riseF (r : Rs) (j : Nat) : Value := ((riseC r)[j]?).getD undef
theorem rise_new (w : World) (r : Rs) : (w.alloc (.cells #[.int .i32 r.p, .int .i32 r.old, .int .i32 r.cnt, .bool r.by_] 46)).rowIs w.heap.size 46 4 (riseF r) :=
  World.rowIs_alloc w _ 46 _ fun i hi => by
    match i, hi with
    | 0, _ => rfl
    | 1, _ => rfl
    | 2, _ => rfl
    | 3, _ => rfl


set_option maxRecDepth 100000 in
set_option maxHeartbeats 1000000 in
theorem x19 (D : PD) (hD : D.Fine) (F : Nat → Prop) (B0 arB : Nat) (st : ST) (R : List Rs) (Qo : Option (Nat → Bool)) (r : Rs) (hr : r.p < D.N) (hby : r.by_ = true) (w0 : World) (hwf : WF D.N R) (hF0 : ∀ b, F b → b < w0.heap.size) (st1 : ST) (w : World) (hA : AR D F B0 arB st1 R (ix R) Qo w) (rb : Nat) (hra : st1.raV = .slice (some ⟨rb, 0, none⟩) D.N D.N) (hStep : Step arB st w0 st1 w) (xB : Nat) (hx : w.rowIs xB 46 4 (riseF r)) (hxT : ¬ TSet arB st1 xB) (a : Act) (hK : Kn 97 ((3, ptr xB) :: (0, ptr arB) :: []) a) :
    Code.wp Yba.prog (nav [1, 1] (Yba.f19.body.getD .skip)) (bodyPost Yba.prog Yba.f19 fun e w' => e = .returned (.tuple #[]) ∧ ∃ st', ARB D F B0 arB st' (rz R r) Qo w' ∧ Step arB st w0 st' w') a w := by
  have hN := hD.N20
  have hlen := hwf.len
  have hixle := ix_le R r.p
  have hrow : w.rowIs rb 21 D.N (fun p => .int .i32 (ix R p)) := by
    rcases hA.ra with h1 | ⟨b, h1, h2⟩
    · rw [hra] at h1; cases h1.1
    · rw [hra] at h1; cases h1; exact h2
  have x0 : w.cell? ⟨xB, 0, none⟩ = some (.int .i32 r.p) := hx.cell (i := 0) (by omega)
  have x1 : w.cell? ⟨xB, 1, none⟩ = some (.int .i32 r.old) := hx.cell (i := 1) (by omega)
  have x2 : w.cell? ⟨xB, 2, none⟩ = some (.int .i32 r.cnt) := hx.cell (i := 2) (by omega)
  have x3 : w.cell? ⟨xB, 3, none⟩ = some (.bool true) := by rw [← hby]; exact hx.cell (i := 3) (by omega)
  obtain ⟨k13, k14, -, -, -, kz⟩ := hA.cells
  rw [hra] at k14
  have kp := hrow.cell (i := r.p) hr
  conv => arg 2; whnf
  refine wp_seq ?_
  refine wp_seq ?_
  refine wp_region_quiet_lit (by kernel_rfl) (by kernel_rfl) ?_
  refine kq hK 20 rfl (by decide) rfl (fun ρ hρ w' hw' => r_mv _ rfl (hρ _ _ rfl)) ?_
  clear hK a; intro a hK
  refine kq hK 21 rfl (by decide) rfl (fun ρ hρ w' hw' => r_nil _ rfl (hρ _ _ rfl)) ?_
  clear hK a; intro a hK
  refine kq hK 22 rfl (by decide) rfl (fun ρ hρ w' hw' => r_fo56_10 _ rfl (hρ _ _ rfl)) ?_
  clear hK a; intro a hK
  refine kq hK 23 rfl (by decide) rfl (fun ρ hρ w' hw' => r_ld33 _ rfl (hρ _ _ rfl) (by obtain ⟨n, rfl⟩ := hw'; exact k14)) ?_
  clear hK a; intro a hK
  refine kq hK 24 rfl (by decide) rfl (fun ρ hρ w' hw' => r_fo46_0 _ rfl (hρ _ _ rfl)) ?_
  clear hK a; intro a hK
  refine kq hK 25 rfl (by decide) rfl (fun ρ hρ w' hw' => r_ld21 _ rfl (hρ _ _ rfl) (by obtain ⟨n, rfl⟩ := hw'; exact x0)) ?_
  clear hK a; intro a hK
  refine kq hK 26 rfl (by decide) rfl (fun ρ hρ w' hw' => r_ix33z _ _ rfl hr (hρ _ _ rfl) (hρ _ _ rfl)) ?_
  clear hK a; intro a hK
  refine kq hK 27 rfl (by decide) rfl (fun ρ hρ w' hw' => r_ld21 _ rfl (hρ _ _ rfl) (by obtain ⟨n, rfl⟩ := hw'; exact kp)) ?_
  clear hK a; intro a hK
  refine kq hK 4 rfl (by decide) rfl (fun ρ hρ w' hw' => r_as _ rfl (hρ _ _ rfl)) ?_
  clear hK a; intro a hK
  refine wpQuiet_nil ?_
  rintro w' ⟨n, rfl⟩
  show Code.wp Yba.prog _ _ _ _
  have hA1 := hA.touch0 ((Touch.refl _ w).drewN n)
  have hSt1 : Step arB st w0 st1 (w.drewN n) := hStep.trans (Step.of_touch0 ((Touch.refl _ w).drewN n))
  have hx1 : (w.drewN n).rowIs xB 46 4 (riseF r) := hx
  have hrow1 : (w.drewN n).rowIs rb 21 D.N (fun p => .int .i32 (ix R p)) := hrow
  replace x0 : (w.drewN n).cell? ⟨xB, 0, none⟩ = some (.int .i32 r.p) := x0
  replace x1 : (w.drewN n).cell? ⟨xB, 1, none⟩ = some (.int .i32 r.old) := x1
  replace x2 : (w.drewN n).cell? ⟨xB, 2, none⟩ = some (.int .i32 r.cnt) := x2
  replace x3 : (w.drewN n).cell? ⟨xB, 3, none⟩ = some (.bool true) := x3
  replace k13 : (w.drewN n).cell? ⟨arB, 13, none⟩ = some st1.rV := k13
  replace k14 : (w.drewN n).cell? ⟨arB, 14, none⟩ = some (.slice (some ⟨rb, 0, none⟩) D.N D.N) := k14
  have hF1 : ∀ b, F b → b < (w.drewN n).heap.size := fun b hF => Nat.lt_of_lt_of_le (hF0 b hF) hSt1.1.size
  clear hA hStep hx hrow kp kz
  generalize w.drewN n = w1 at *
  clear w
  refine wp_seq ?_
  refine wp_region_lit ?_
  refine kl hK 28 rfl (by decide) rfl (fun ρ hρ => r_mv _ rfl (hρ _ _ rfl)) ?_
  clear hK a; intro a hK
  refine kl hK 29 rfl (by decide) rfl (fun ρ hρ => r_gtr21 _ _ rfl (hρ _ _ rfl) (hρ _ _ rfl)) ?_
  clear hK a; intro a hK
  refine wpList_nil ?_
  show Code.wp Yba.prog _ _ _ _
  by_cases h0 : ix R r.p = 0
  · have hrz : rz R r = R ++ [r] := if_pos h0
    refine wp_cond_false (by rw [hK.rho (.tmp 29) _ rfl]; exact congrArg Value.bool (decide_eq_false (by omega))) ?_
    refine wp_skip ?_
    show Code.wp Yba.prog _ _ _ _
    replace hK := hK.sub (M := (3, ptr xB) :: (0, ptr arB) :: []) ⟨rfl, rfl, trivial⟩
    refine wp_seq ?_
    have hlt : ∀ g, st1.rV.ownBlock = some g → g < w1.heap.size := fun g hg => (hA1.rr.lt g hg).2
    have hxlt := hx1.lt
    obtain ⟨c, hc1, -⟩ := hA1.obj
    refine wp_region_noPanic ?_
    refine wp_region_peel' (fun w' => w'.cell? ⟨arB, 13, none⟩ = some st1.rV ∧ w'.cell? ⟨xB, 0, none⟩ = some (.int .i32 r.p) ∧ w'.cell? ⟨xB, 1, none⟩ = some (.int .i32 r.old) ∧ w'.cell? ⟨xB, 2, none⟩ = some (.int .i32 r.cnt) ∧ w'.cell? ⟨xB, 3, none⟩ = some (.bool true)) (by simp) (by kernel_rfl) (by kernel_rfl) (by kernel_rfl) ?_
    have hS0 : (fun w' : World => w'.cell? ⟨arB, 13, none⟩ = some st1.rV ∧ w'.cell? ⟨xB, 0, none⟩ = some (.int .i32 r.p) ∧ w'.cell? ⟨xB, 1, none⟩ = some (.int .i32 r.old) ∧ w'.cell? ⟨xB, 2, none⟩ = some (.int .i32 r.cnt) ∧ w'.cell? ⟨xB, 3, none⟩ = some (.bool true)) w1.drew := ⟨k13, x0, x1, x2, x3⟩
    refine kt hK (i := 0) 74 rfl (by kernel_rfl) (by kernel_rfl) (by kernel_rfl) (fun _ _ _ h => h) hS0 rfl (by decide) rfl (fun ρ hρ w' hw' => r_mv _ rfl (hρ _ _ rfl)) ?_
    clear hK a; intro a hK
    refine kt hK (i := 1) 75 rfl (by kernel_rfl) (by kernel_rfl) (by kernel_rfl) (fun _ _ _ h => h) hS0 rfl (by decide) rfl (fun ρ hρ w' hw' => r_mv _ rfl (hρ _ _ rfl)) ?_
    clear hK a; intro a hK
    refine kt hK (i := 2) 76 rfl (by kernel_rfl) (by kernel_rfl) (by kernel_rfl) (fun _ _ _ h => h) hS0 rfl (by decide) rfl (fun ρ hρ w' hw' => r_nil _ rfl (hρ _ _ rfl)) ?_
    clear hK a; intro a hK
    refine kt hK (i := 3) 77 rfl (by kernel_rfl) (by kernel_rfl) (by kernel_rfl) (fun _ _ _ h => h) hS0 rfl (by decide) rfl (fun ρ hρ w' hw' => r_fo56_9 _ rfl (hρ _ _ rfl)) ?_
    clear hK a; intro a hK
    refine kt hK (i := 4) 78 rfl (by kernel_rfl) (by kernel_rfl) (by kernel_rfl) (fun _ _ _ h => h) hS0 rfl (by decide) rfl (fun ρ hρ w' hw' => r_ld41 _ rfl (hρ _ _ rfl) hw'.1) ?_
    clear hK a; intro a hK
    refine kt hK (i := 5) 79 rfl (by kernel_rfl) (by kernel_rfl) (by kernel_rfl) (fun _ _ _ h => h) hS0 rfl (by decide) rfl (fun ρ hρ w' hw' => r_ld46z _ rfl (hρ _ _ rfl) hw'.2.1 hw'.2.2.1 hw'.2.2.2.1 hw'.2.2.2.2) ?_
    clear hK a; intro a hK
    have hTa : Touch (fun _ => False) w1 (w1.drew.alloc (.cells #[.int .i32 r.p, .int .i32 r.old, .int .i32 r.cnt, .bool true] 46)) := (Touch.refl _ w1).drew.alloc _
    have hbl : ∀ b, b < w1.heap.size → (w1.drew.alloc (.cells #[.int .i32 r.p, .int .i32 r.old, .int .i32 r.cnt, .bool true] 46)).heap[b]? = w1.heap[b]? := fun b hb => hTa.block b hb id
    have hS1 : (fun w' : World => w'.cell? ⟨arB, 13, none⟩ = some st1.rV ∧ w'.cell? ⟨xB, 0, none⟩ = some (.int .i32 r.p) ∧ w'.cell? ⟨xB, 1, none⟩ = some (.int .i32 r.old) ∧ w'.cell? ⟨xB, 2, none⟩ = some (.int .i32 r.cnt) ∧ w'.cell? ⟨xB, 3, none⟩ = some (.bool true)) (w1.drew.alloc (.cells #[.int .i32 r.p, .int .i32 r.old, .int .i32 r.cnt, .bool true] 46)) := ⟨(World.cell?_of_block (a := ⟨arB, 13, none⟩) (hbl _ hc1.lt)).trans k13, (World.cell?_of_block (a := ⟨xB, 0, none⟩) (hbl _ hxlt)).trans x0, (World.cell?_of_block (a := ⟨xB, 1, none⟩) (hbl _ hxlt)).trans x1, (World.cell?_of_block (a := ⟨xB, 2, none⟩) (hbl _ hxlt)).trans x2, (World.cell?_of_block (a := ⟨xB, 3, none⟩) (hbl _ hxlt)).trans x3⟩
    refine kd_val hK (i := 6) 80 (by kernel_rfl) rfl rfl (by decide) rfl (fun ρ hρ => r_bsl41 _ rfl (hρ _ _ rfl)) hS1 ?_
    clear hK a; intro a hK
    have hAa := hA1.touch0 hTa
    have hnew : ∀ j u, (riseC r)[j]? = some u → (w1.drew.alloc (.cells #[.int .i32 r.p, .int .i32 r.old, .int .i32 r.cnt, .bool true] 46)).cell? ((⟨w1.drew.heap.size, 0, none⟩ : Addr).add j) = some u := fun j u hu => by
      have hadd : (⟨w1.drew.heap.size, 0, none⟩ : Addr).add j = ⟨w1.drew.heap.size, j, none⟩ := by unfold Addr.add; split <;> simp_all
      rw [hadd]
      refine cell_new w1.drew _ 46 ?_
      rw [← hby]
      simpa [riseC] using hu
    refine kdapp hK (i := 7) 81 78 80 41 (by kernel_rfl) rfl rfl (by decide) rfl rfl B0 Yba.underlying41 info46' rfl (by decide) (by decide) rfl rfl hAa.rr (news := riseC r) rfl hnew (by simp [riseC, Value.oneCell']) (by decide) (by omega) hAa.base ?_
    intro g cap w2 hown hgr hat hgl
    have hS2 : w2.cell? ⟨arB, 13, none⟩ = some st1.rV ∧ w2.cell? ⟨xB, 0, none⟩ = some (.int .i32 r.p) ∧ w2.cell? ⟨xB, 1, none⟩ = some (.int .i32 r.old) ∧ w2.cell? ⟨xB, 2, none⟩ = some (.int .i32 r.cnt) ∧ w2.cell? ⟨xB, 3, none⟩ = some (.bool true) := by
      have hT2 : Touch (fun b => st1.rV.ownBlock = some b) w1 w2 := (hTa.mono (S' := fun b => st1.rV.ownBlock = some b) fun _ _ h => h.elim).grown hgr fun k hk => .inl hk
      have e1 := hT2.block arB hc1.lt (own_ne hA1.rr hc1 (by decide))
      have e2 := hT2.block xB hxlt fun e => hxT (.inr (.inl e))
      exact ⟨(World.cell?_of_block (a := ⟨arB, 13, none⟩) e1).trans k13, (World.cell?_of_block (a := ⟨xB, 0, none⟩) e2).trans x0, (World.cell?_of_block (a := ⟨xB, 1, none⟩) e2).trans x1, (World.cell?_of_block (a := ⟨xB, 2, none⟩) e2).trans x2, (World.cell?_of_block (a := ⟨xB, 3, none⟩) e2).trans x3⟩
    refine ⟨hS2, ?_⟩
    clear hK a hS0; intro a hK
    have hS0 := hS2
    refine kt hK (i := 8) 82 rfl (by kernel_rfl) (by kernel_rfl) (by kernel_rfl) (fun _ _ _ h => h) hS0 rfl (by decide) rfl (fun ρ hρ w' hw' => r_nil _ rfl (hρ _ _ rfl)) ?_
    clear hK a; intro a hK
    refine kt hK (i := 9) 83 rfl (by kernel_rfl) (by kernel_rfl) (by kernel_rfl) (fun _ _ _ h => h) hS0 rfl (by decide) rfl (fun ρ hρ w' hw' => r_fo56_9 _ rfl (hρ _ _ rfl)) ?_
    clear hK a; intro a hK
    refine wpAnyH_done (by kernel_rfl) ?_ _
    have hfz : w2.frozen? ⟨arB, 13, none⟩ = false := by
      have hT2 : Touch (fun b => st1.rV.ownBlock = some b) w1 w2 := (hTa.mono (S' := fun b => st1.rV.ownBlock = some b) fun _ _ h => h.elim).grown hgr fun k hk => .inl hk
      exact (hc1.of_block (hT2.block arB hc1.lt (own_ne hA1.rr hc1 (by decide)))).frozen 13
    refine peel_st hK rfl (fun ρ hρ => r_sto41 _ _ rfl (hρ _ _ rfl) (hρ _ _ rfl) hS2.1 hfz) ?_
    show Code.wp Yba.prog _ _ _ _
    obtain ⟨hA2, hSt2⟩ := hA1.app hF1 (r := r) hTa hgr hown hat
    have hx2 := hSt2.keep hxlt hxT
    generalize hw3 : w2.setCell ⟨arB, 13, none⟩ (.slice (some ⟨g, 0, none⟩) (R.length + 1) cap) = w3 at *
    generalize hst2 : ({ st1 with rV := .slice (some ⟨g, 0, none⟩) (R.length + 1) cap } : ST) = st2 at *
    have hra2 : st2.raV = .slice (some ⟨rb, 0, none⟩) D.N D.N := by rw [← hst2]; exact hra
    have hrv2 : st2.rV = .slice (some ⟨g, 0, none⟩) (R.length + 1) cap := by rw [← hst2]
    have hx3 : w3.rowIs xB 46 4 (riseF r) := hx1.of_block hx2.1
    have y0 : w3.cell? ⟨xB, 0, none⟩ = some (.int .i32 r.p) := hx3.cell (i := 0) (by omega)
    obtain ⟨m13, m14, -, -, -, mz⟩ := hA2.cells
    rw [hra2] at m14
    rw [hrv2] at m13
    have hrow3 : w3.rowIs rb 21 D.N (fun p => .int .i32 (ix R p)) := by
      rcases hA2.ra with h1 | ⟨b, h1, h2⟩
      · rw [hra2] at h1; cases h1.1
      · rw [hra2] at h1; cases h1; exact h2
    have yp := hrow3.cell (i := r.p) hr
    replace hK := hK.sub (M := (3, ptr xB) :: (0, ptr arB) :: []) ⟨rfl, rfl, trivial⟩
    refine wp_region_noPanic ?_
    refine wp_region_peel' (fun w' => w'.cell? ⟨arB, 14, none⟩ = some (.slice (some ⟨rb, 0, none⟩) D.N D.N) ∧ w'.cell? ⟨xB, 0, none⟩ = some (.int .i32 r.p) ∧ w'.cell? ⟨arB, 13, none⟩ = some (.slice (some ⟨g, 0, none⟩) (R.length + 1) cap)) (by simp) (by kernel_rfl) (by kernel_rfl) (by kernel_rfl) ?_
    have hS0 : (fun w' : World => w'.cell? ⟨arB, 14, none⟩ = some (.slice (some ⟨rb, 0, none⟩) D.N D.N) ∧ w'.cell? ⟨xB, 0, none⟩ = some (.int .i32 r.p) ∧ w'.cell? ⟨arB, 13, none⟩ = some (.slice (some ⟨g, 0, none⟩) (R.length + 1) cap)) w3.drew := ⟨m14, y0, m13⟩
    refine kt hK (i := 0) 84 rfl (by kernel_rfl) (by kernel_rfl) (by kernel_rfl) (fun _ _ _ h => h) hS0 rfl (by decide) rfl (fun ρ hρ w' hw' => r_mv _ rfl (hρ _ _ rfl)) ?_
    clear hK a; intro a hK
    refine kt hK (i := 1) 85 rfl (by kernel_rfl) (by kernel_rfl) (by kernel_rfl) (fun _ _ _ h => h) hS0 rfl (by decide) rfl (fun ρ hρ w' hw' => r_nil _ rfl (hρ _ _ rfl)) ?_
    clear hK a; intro a hK
    refine kt hK (i := 2) 86 rfl (by kernel_rfl) (by kernel_rfl) (by kernel_rfl) (fun _ _ _ h => h) hS0 rfl (by decide) rfl (fun ρ hρ w' hw' => r_fo56_10 _ rfl (hρ _ _ rfl)) ?_
    clear hK a; intro a hK
    refine kt hK (i := 3) 87 rfl (by kernel_rfl) (by kernel_rfl) (by kernel_rfl) (fun _ _ _ h => h) hS0 rfl (by decide) rfl (fun ρ hρ w' hw' => r_ld33 _ rfl (hρ _ _ rfl) hw'.1) ?_
    clear hK a; intro a hK
    refine kt hK (i := 4) 88 rfl (by kernel_rfl) (by kernel_rfl) (by kernel_rfl) (fun _ _ _ h => h) hS0 rfl (by decide) rfl (fun ρ hρ w' hw' => r_fo46_0 _ rfl (hρ _ _ rfl)) ?_
    clear hK a; intro a hK
    refine kt hK (i := 5) 89 rfl (by kernel_rfl) (by kernel_rfl) (by kernel_rfl) (fun _ _ _ h => h) hS0 rfl (by decide) rfl (fun ρ hρ w' hw' => r_ld21 _ rfl (hρ _ _ rfl) hw'.2.1) ?_
    clear hK a; intro a hK
    refine kt hK (i := 6) 90 rfl (by kernel_rfl) (by kernel_rfl) (by kernel_rfl) (fun _ _ _ h => h) hS0 rfl (by decide) rfl (fun ρ hρ w' hw' => r_mv _ rfl (hρ _ _ rfl)) ?_
    clear hK a; intro a hK
    refine kt hK (i := 7) 91 rfl (by kernel_rfl) (by kernel_rfl) (by kernel_rfl) (fun _ _ _ h => h) hS0 rfl (by decide) rfl (fun ρ hρ w' hw' => r_nil _ rfl (hρ _ _ rfl)) ?_
    clear hK a; intro a hK
    refine kt hK (i := 8) 92 rfl (by kernel_rfl) (by kernel_rfl) (by kernel_rfl) (fun _ _ _ h => h) hS0 rfl (by decide) rfl (fun ρ hρ w' hw' => r_fo56_9 _ rfl (hρ _ _ rfl)) ?_
    clear hK a; intro a hK
    refine kt hK (i := 9) 93 rfl (by kernel_rfl) (by kernel_rfl) (by kernel_rfl) (fun _ _ _ h => h) hS0 rfl (by decide) rfl (fun ρ hρ w' hw' => r_ld41 _ rfl (hρ _ _ rfl) hw'.2.2) ?_
    clear hK a; intro a hK
    refine kt hK (i := 10) 94 rfl (by kernel_rfl) (by kernel_rfl) (by kernel_rfl) (fun _ _ _ h => h) hS0 rfl (by decide) rfl (fun ρ hρ w' hw' => r_len41 _ rfl (hρ _ _ rfl)) ?_
    clear hK a; intro a hK
    refine kt hK (i := 11) 95 rfl (by kernel_rfl) (by kernel_rfl) (by kernel_rfl) (fun _ _ _ h => h) hS0 rfl (by decide) rfl (fun ρ hρ w' hw' => r_cn3_21 _ rfl (by omega) (hρ _ _ rfl)) ?_
    clear hK a; intro a hK
    refine kt hK (i := 12) 96 rfl (by kernel_rfl) (by kernel_rfl) (by kernel_rfl) (fun _ _ _ h => h) hS0 rfl (by decide) rfl (fun ρ hρ w' hw' => r_ix33z _ _ rfl hr (hρ _ _ rfl) (hρ _ _ rfl)) ?_
    clear hK a; intro a hK
    refine wpAnyH_done (by kernel_rfl) ?_ _
    refine peel_st hK rfl (fun ρ hρ => r_sto21 _ _ rfl (hρ _ _ rfl) (hρ _ _ rfl) yp (hrow3.frozen r.p)) ?_
    have hA3 := (hA2.touch0 (Touch.refl _ w3).drew).wRa hra2 r.p (R.length + 1)
    have hSt3 : Step arB st2 w3 st2 (w3.drew.setCell ⟨rb, r.p, none⟩ (.int .i32 ((R.length + 1 : Nat) : Int))) := ⟨(Touch.refl _ w3).drew.setCell (.inl (.inr (.inr (.inl (by rw [hra2]; rfl))))) _, fun b h => .inl h⟩
    have hixx : updN (ix R) r.p (R.length + 1) = ix (R ++ [r]) := by
      funext p
      rw [ix_app]
      unfold updN
      by_cases e : p = r.p
      · subst e; rw [if_pos rfl, h0]; simp
      · rw [if_neg e, if_neg (show ¬ r.p = p from fun h => e h.symm)]
        by_cases e2 : ix R p = 0
        · simp [e2]
        · simp [e2]
    rw [hixx] at hA3
    refine NoPanic.normal ?_
    refine kend0 hK rfl ⟨rfl, st2, ?_, hSt1.trans (hSt2.trans hSt3)⟩
    rw [hrz]
    refine ⟨hA3, ⟨(fun h => by rw [hra2] at h; cases h), fun h => by simp at h⟩, by rw [← hrz]; exact hwf.rz hr, fun b hF => ?_⟩
    exact Nat.lt_of_lt_of_le (hF1 b hF) (Nat.le_trans hSt2.1.size hSt3.1.size)
  · obtain ⟨o, ho, hop⟩ := ix_some R r.p h0
    have hrz : rz R r = R.set (ix R r.p - 1) (up o r.cnt) := by
      unfold rz
      rw [if_neg h0, ho]
    obtain ⟨i, hi⟩ : ∃ i, i = ix R r.p - 1 := ⟨_, rfl⟩
    rw [← hi] at ho hrz
    have hil : i < R.length := (List.getElem?_eq_some_iff.1 ho).1
    obtain ⟨o0, o1, o2, o3⟩ := riseL_get R i o ho
    obtain ⟨g, cap, hrv, hcap⟩ : ∃ g cap, st1.rV = .slice (some ⟨g, 0, none⟩) R.length cap ∧ R.length ≤ cap := by
      rcases own_slice hA1.rr with ⟨-, h2⟩ | ⟨g, cap, h2, h3, -⟩
      · omega
      · exact ⟨g, cap, h2, h3⟩
    have hrr := hA1.rr
    rw [hrv] at hrr k13
    obtain ⟨q2, z2⟩ := own_cell hrr o2
    obtain ⟨q3, z3⟩ := own_cell hrr o3
    have hiR : (ix R r.p : Int) = ((i + 1 : Nat) : Int) := by omega
    refine wp_cond_true (by rw [hK.rho (.tmp 29) _ rfl]; exact congrArg Value.bool (decide_eq_true (by omega))) ?_
    refine wp_seq ?_
    refine wp_region_lit ?_
    refine kl hK 30 rfl (by decide) rfl (fun ρ hρ => r_mv _ rfl (hρ _ _ rfl)) ?_
    clear hK a; intro a hK
    refine kl hK 31 rfl (by decide) rfl (fun ρ hρ => r_nil _ rfl (hρ _ _ rfl)) ?_
    clear hK a; intro a hK
    refine kl hK 32 rfl (by decide) rfl (fun ρ hρ => r_fo56_9 _ rfl (hρ _ _ rfl)) ?_
    clear hK a; intro a hK
    refine kl hK 33 rfl (by decide) rfl (fun ρ hρ => r_ld41 _ rfl (hρ _ _ rfl) k13) ?_
    clear hK a; intro a hK
    refine kl hK 34 rfl (by decide) rfl (fun ρ hρ => r_mv _ rfl (hρ _ _ rfl)) ?_
    clear hK a; intro a hK
    refine kl hK 35 rfl (by decide) rfl (fun ρ hρ => r_dec21 (m := i + 1) _ rfl (by omega) (by omega) (by rw [← hiR]; exact hρ _ _ rfl) (hρ _ _ rfl)) ?_
    clear hK a; intro a hK
    refine kl hK 36 rfl (by decide) rfl (fun ρ hρ => r_ix41z _ _ rfl hil (hρ _ _ rfl) (hρ _ _ rfl)) ?_
    clear hK a; intro a hK
    refine kl hK 5 rfl (by decide) rfl (fun ρ hρ => r_as _ rfl (hρ _ _ rfl)) ?_
    clear hK a; intro a hK
    refine wpList_nil ?_
    show Code.wp Yba.prog _ _ _ _
    replace hK := hK.sub (M := (5, .pointer (some ⟨g, i * 4, none⟩)) :: (3, ptr xB) :: (0, ptr arB) :: []) ⟨rfl, rfl, rfl, trivial⟩
    refine wp_seq ?_
    refine wp_block ?_
    refine wp_seq ?_
    refine wp_region_quiet_lit (by kernel_rfl) (by kernel_rfl) ?_
    refine kq hK 38 rfl (by decide) rfl (fun ρ hρ w' hw' => r_fo46_2 _ rfl (hρ _ _ rfl)) ?_
    clear hK a; intro a hK
    refine kq hK 39 rfl (by decide) rfl (fun ρ hρ w' hw' => r_ld21 _ rfl (hρ _ _ rfl) (by obtain ⟨n, rfl⟩ := hw'; exact x2)) ?_
    clear hK a; intro a hK
    refine kq hK 40 rfl (by decide) rfl (fun ρ hρ w' hw' => r_mv _ rfl (hρ _ _ rfl)) ?_
    clear hK a; intro a hK
    refine kq hK 41 rfl (by decide) rfl (fun ρ hρ w' hw' => r_nil _ rfl (hρ _ _ rfl)) ?_
    clear hK a; intro a hK
    refine kq hK 42 rfl (by decide) rfl (fun ρ hρ w' hw' => r_fa46_2 _ rfl (hρ _ _ rfl)) ?_
    clear hK a; intro a hK
    refine kq hK 43 rfl (by decide) rfl (fun ρ hρ w' hw' => r_ld21 _ rfl (hρ _ _ rfl) (by obtain ⟨n, rfl⟩ := hw'; exact q2)) ?_
    clear hK a; intro a hK
    refine kq hK 44 rfl (by decide) rfl (fun ρ hρ w' hw' => r_gtr21 _ _ rfl (hρ _ _ rfl) (hρ _ _ rfl)) ?_
    clear hK a; intro a hK
    refine kq hK 37 rfl (by decide) rfl (fun ρ hρ w' hw' => r_as _ rfl (hρ _ _ rfl)) ?_
    clear hK a; intro a hK
    refine wpQuiet_nil ?_
    rintro w' ⟨n, rfl⟩
    show Code.wp Yba.prog _ _ _ _
    replace x2 : (w1.drewN n).cell? ⟨xB, 2, none⟩ = some (.int .i32 r.cnt) := x2
    replace x3 : (w1.drewN n).cell? ⟨xB, 3, none⟩ = some (.bool true) := x3
    replace q2 : (w1.drewN n).cell? ⟨g, i * 4 + 2, none⟩ = some (.int .i32 o.cnt) := q2
    replace q3 : (w1.drewN n).cell? ⟨g, i * 4 + 3, none⟩ = some (.bool o.by_) := q3
    replace z2 : (w1.drewN n).frozen? ⟨g, i * 4 + 2, none⟩ = false := z2
    replace z3 : (w1.drewN n).frozen? ⟨g, i * 4 + 3, none⟩ = false := z3
    replace hA1 := hA1.touch0 ((Touch.refl _ w1).drewN n)
    replace hSt1 : Step arB st w0 st1 (w1.drewN n) := hSt1.trans (Step.of_touch0 ((Touch.refl _ w1).drewN n))
    replace hF1 : ∀ b, F b → b < (w1.drewN n).heap.size := hF1
    replace hrr : (w1.drewN n).ownsRow B0 46 4 (.slice (some ⟨g, 0, none⟩) R.length cap) R.length (riseL R) := hrr
    replace hx1 : (w1.drewN n).rowIs xB 46 4 (riseF r) := hx1
    generalize w1.drewN n = w2 at *
    have hgT : TSet arB st1 g := .inr (.inl (by rw [hrv]; rfl))
    have hxg : xB ≠ g := fun e => hxT (e ▸ hgT)
    have e2n : ∀ b : Bool, (riseL R).set (i * 4 + 2) (.int .i32 o.cnt) = riseL R := fun b => by
      apply List.ext_getElem?
      intro j
      rw [List.getElem?_set]
      by_cases e : i * 4 + 2 = j
      · subst e; rw [if_pos rfl, o2, if_pos (List.getElem?_eq_some_iff.1 o2).1]
      · rw [if_neg e]
    replace hK := hK.sub (M := (37, .bool (decide (o.cnt < r.cnt))) :: (5, .pointer (some ⟨g, i * 4, none⟩)) :: (3, ptr xB) :: (0, ptr arB) :: []) ⟨rfl, rfl, rfl, rfl, trivial⟩
    by_cases hc1 : o.cnt < r.cnt
    · have hup : up o r.cnt = ⟨o.p, o.old, r.cnt, true⟩ := if_pos hc1
      refine wp_cond_true (by rw [hK.rho (.tmp 37) _ rfl]; exact congrArg Value.bool (decide_eq_true hc1)) ?_
      have hO1 := own_set (show w2.drew.ownsRow B0 46 4 (.slice (some ⟨g, 0, none⟩) R.length cap) R.length (riseL R) from hrr) (i * 4 + 2) (.int .i32 r.cnt)
      have o3' : ((riseL R).set (i * 4 + 2) (.int .i32 r.cnt))[i * 4 + 3]? = some (.bool o.by_) := by rw [List.getElem?_set_ne (by omega)]; exact o3
      have hO2 := own_set hO1 (i * 4 + 3) (.bool true)
      rw [← riseL_set R i o r.cnt true ho] at hO2
      have hb1 : (w2.drew.setCell ⟨g, i * 4 + 2, none⟩ (.int .i32 r.cnt)).heap[xB]? = w2.heap[xB]? := Go.Deep.blk_setCell_other _ _ _ _ hxg
      have hb2 : ((w2.drew.setCell ⟨g, i * 4 + 2, none⟩ (.int .i32 r.cnt)).setCell ⟨g, i * 4 + 3, none⟩ (.bool true)).heap[xB]? = w2.heap[xB]? := (Go.Deep.blk_setCell_other _ _ _ _ hxg).trans hb1
      refine wp_region_noPanic ?_
      refine wp_region_held_drew (S := fun w' => w'.cell? ⟨xB, 2, none⟩ = some (.int .i32 r.cnt) ∧ w'.cell? ⟨xB, 3, none⟩ = some (.bool true)) (by kernel_rfl) ⟨x2, x3⟩ (fun hS0 => ?_)
      refine kt hK (i := 0) 45 rfl (by kernel_rfl) (by kernel_rfl) (by kernel_rfl) (fun _ _ _ h => h) hS0 rfl (by decide) rfl (fun ρ hρ w' hw' => r_mv _ rfl (hρ _ _ rfl)) ?_
      clear hK a; intro a hK
      refine kt hK (i := 1) 46 rfl (by kernel_rfl) (by kernel_rfl) (by kernel_rfl) (fun _ _ _ h => h) hS0 rfl (by decide) rfl (fun ρ hρ w' hw' => r_mv _ rfl (hρ _ _ rfl)) ?_
      clear hK a; intro a hK
      refine kt hK (i := 2) 47 rfl (by kernel_rfl) (by kernel_rfl) (by kernel_rfl) (fun _ _ _ h => h) hS0 rfl (by decide) rfl (fun ρ hρ w' hw' => r_fo46_2 _ rfl (hρ _ _ rfl)) ?_
      clear hK a; intro a hK
      refine kt hK (i := 3) 48 rfl (by kernel_rfl) (by kernel_rfl) (by kernel_rfl) (fun _ _ _ h => h) hS0 rfl (by decide) rfl (fun ρ hρ w' hw' => r_ld21 _ rfl (hρ _ _ rfl) hw'.1) ?_
      clear hK a; intro a hK
      refine kt hK (i := 4) 49 rfl (by kernel_rfl) (by kernel_rfl) (by kernel_rfl) (fun _ _ _ h => h) hS0 rfl (by decide) rfl (fun ρ hρ w' hw' => r_fo46_3 _ rfl (hρ _ _ rfl)) ?_
      clear hK a; intro a hK
      refine kt hK (i := 5) 50 rfl (by kernel_rfl) (by kernel_rfl) (by kernel_rfl) (fun _ _ _ h => h) hS0 rfl (by decide) rfl (fun ρ hρ w' hw' => r_ld4 _ rfl (hρ _ _ rfl) hw'.2) ?_
      clear hK a; intro a hK
      refine kt hK (i := 6) 51 rfl (by kernel_rfl) (by kernel_rfl) (by kernel_rfl) (fun _ _ _ h => h) hS0 rfl (by decide) rfl (fun ρ hρ w' hw' => r_nil _ rfl (hρ _ _ rfl)) ?_
      clear hK a; intro a hK
      refine kt hK (i := 7) 52 rfl (by kernel_rfl) (by kernel_rfl) (by kernel_rfl) (fun _ _ _ h => h) hS0 rfl (by decide) rfl (fun ρ hρ w' hw' => r_fa46_2 _ rfl (hρ _ _ rfl)) ?_
      clear hK a; intro a hK
      have hS1 : (w2.drew.setCell ⟨g, i * 4 + 2, none⟩ (.int .i32 r.cnt)).cell? ⟨xB, 2, none⟩ = some (.int .i32 r.cnt) ∧ (w2.drew.setCell ⟨g, i * 4 + 2, none⟩ (.int .i32 r.cnt)).cell? ⟨xB, 3, none⟩ = some (.bool true) := ⟨(World.cell?_of_block (a := ⟨xB, 2, none⟩) hb1).trans x2, (World.cell?_of_block (a := ⟨xB, 3, none⟩) hb1).trans x3⟩
      refine kd_store hK (i := 8) (by kernel_rfl) rfl rfl rfl (fun ρ hρ => r_sto21 _ _ rfl (hρ _ _ rfl) (hρ _ _ rfl) q2 z2) hS1 ?_
      clear hS0
      have hS0 := hS1
      refine kt hK (i := 9) 53 rfl (by kernel_rfl) (by kernel_rfl) (by kernel_rfl) (fun _ _ _ h => h) hS0 rfl (by decide) rfl (fun ρ hρ w' hw' => r_nil _ rfl (hρ _ _ rfl)) ?_
      clear hK a; intro a hK
      refine kt hK (i := 10) 54 rfl (by kernel_rfl) (by kernel_rfl) (by kernel_rfl) (fun _ _ _ h => h) hS0 rfl (by decide) rfl (fun ρ hρ w' hw' => r_fa46_3 _ rfl (hρ _ _ rfl)) ?_
      clear hK a; intro a hK
      have hS2 : ((w2.drew.setCell ⟨g, i * 4 + 2, none⟩ (.int .i32 r.cnt)).setCell ⟨g, i * 4 + 3, none⟩ (.bool true)).cell? ⟨xB, 2, none⟩ = some (.int .i32 r.cnt) ∧ ((w2.drew.setCell ⟨g, i * 4 + 2, none⟩ (.int .i32 r.cnt)).setCell ⟨g, i * 4 + 3, none⟩ (.bool true)).cell? ⟨xB, 3, none⟩ = some (.bool true) := ⟨(World.cell?_of_block (a := ⟨xB, 2, none⟩) hb2).trans x2, (World.cell?_of_block (a := ⟨xB, 3, none⟩) hb2).trans x3⟩
      refine kd_store hK (i := 11) (by kernel_rfl) rfl rfl rfl (fun ρ hρ => r_sto4 _ _ rfl (hρ _ _ rfl) (hρ _ _ rfl) (own_cell hO1 o3').1 (own_cell hO1 o3').2) hS2 ?_
      refine wpAnyH_done (by kernel_rfl) ?_ _
      show Code.wp Yba.prog _ _ _ _
      refine wp_ret ?_
      try simp only [Exit.inBlock, Exit.then]
      have hTc : Touch (fun b => st1.rV.ownBlock = some b) w2 ((w2.drew.setCell ⟨g, i * 4 + 2, none⟩ (.int .i32 r.cnt)).setCell ⟨g, i * 4 + 3, none⟩ (.bool true)) := ((Touch.refl _ w2).drew.setCell (.inl (by rw [hrv]; rfl)) _).setCell (.inl (by rw [hrv]; rfl)) _
      have hstp : Step arB st1 w2 st1 ((w2.drew.setCell ⟨g, i * 4 + 2, none⟩ (.int .i32 r.cnt)).setCell ⟨g, i * 4 + 3, none⟩ (.bool true)) := ⟨hTc.mono fun b _ hb => .inr (.inl hb), fun b h => .inl h⟩
      refine kret0 hK rfl ⟨rfl, st1, ?_, hSt1.trans hstp⟩
      rw [hrz, hup]
      refine ⟨?_, ⟨(fun h => by rw [hra] at h; cases h), fun h => by have h2 := congrArg List.length h; simp only [List.length_set, List.length_nil] at h2; omega⟩, by rw [← hup, ← hrz]; exact hwf.rz hr, fun b hF => Nat.lt_of_lt_of_le (hF1 b hF) hTc.size⟩
      have hAf := hA1.wR (w' := ((w2.drew.setCell ⟨g, i * 4 + 2, none⟩ (.int .i32 r.cnt)).setCell ⟨g, i * 4 + 3, none⟩ (.bool true))) hTc (R' := R.set i ⟨o.p, o.old, r.cnt, true⟩) (by rw [List.length_set, hrv]; exact hO2)
      have hixx : ix R = ix (R.set i ⟨o.p, o.old, r.cnt, true⟩) := funext fun p => (ix_set R i o (⟨o.p, o.old, r.cnt, true⟩) ho rfl p).symm
      rw [hixx] at hAf
      exact hAf
    · have hupE : up o r.cnt = if r.cnt = o.cnt then ⟨o.p, o.old, o.cnt, true⟩ else o := if_neg hc1
      refine wp_cond_false (by rw [hK.rho (.tmp 37) _ rfl]; exact congrArg Value.bool (decide_eq_false hc1)) ?_
      refine wp_seq ?_
      refine wp_region_quiet_lit (by kernel_rfl) (by kernel_rfl) ?_
      refine kq hK 56 rfl (by decide) rfl (fun ρ hρ w' hw' => r_fo46_2 _ rfl (hρ _ _ rfl)) ?_
      clear hK a; intro a hK
      refine kq hK 57 rfl (by decide) rfl (fun ρ hρ w' hw' => r_ld21 _ rfl (hρ _ _ rfl) (by obtain ⟨n, rfl⟩ := hw'; exact x2)) ?_
      clear hK a; intro a hK
      refine kq hK 58 rfl (by decide) rfl (fun ρ hρ w' hw' => r_mv _ rfl (hρ _ _ rfl)) ?_
      clear hK a; intro a hK
      refine kq hK 59 rfl (by decide) rfl (fun ρ hρ w' hw' => r_nil _ rfl (hρ _ _ rfl)) ?_
      clear hK a; intro a hK
      refine kq hK 60 rfl (by decide) rfl (fun ρ hρ w' hw' => r_fa46_2 _ rfl (hρ _ _ rfl)) ?_
      clear hK a; intro a hK
      refine kq hK 61 rfl (by decide) rfl (fun ρ hρ w' hw' => r_ld21 _ rfl (hρ _ _ rfl) (by obtain ⟨n, rfl⟩ := hw'; exact q2)) ?_
      clear hK a; intro a hK
      refine kq hK 62 rfl (by decide) rfl (fun ρ hρ w' hw' => r_eql21 _ _ rfl (hρ _ _ rfl) (hρ _ _ rfl)) ?_
      clear hK a; intro a hK
      refine kq hK 55 rfl (by decide) rfl (fun ρ hρ w' hw' => r_as _ rfl (hρ _ _ rfl)) ?_
      clear hK a; intro a hK
      refine wpQuiet_nil ?_
      rintro w' ⟨n, rfl⟩
      show Code.wp Yba.prog _ _ _ _
      replace x3 : (w2.drewN n).cell? ⟨xB, 3, none⟩ = some (.bool true) := x3
      replace q3 : (w2.drewN n).cell? ⟨g, i * 4 + 3, none⟩ = some (.bool o.by_) := q3
      replace z3 : (w2.drewN n).frozen? ⟨g, i * 4 + 3, none⟩ = false := z3
      replace hA1 := hA1.touch0 ((Touch.refl _ w2).drewN n)
      replace hSt1 : Step arB st w0 st1 (w2.drewN n) := hSt1.trans (Step.of_touch0 ((Touch.refl _ w2).drewN n))
      replace hF1 : ∀ b, F b → b < (w2.drewN n).heap.size := hF1
      replace hrr : (w2.drewN n).ownsRow B0 46 4 (.slice (some ⟨g, 0, none⟩) R.length cap) R.length (riseL R) := hrr
      clear x2 q2 z2 hx1
      generalize w2.drewN n = w3 at *
      clear w2
      by_cases hc2 : r.cnt = o.cnt
      · have hup : up o r.cnt = ⟨o.p, o.old, o.cnt, true⟩ := by rw [hupE, if_pos hc2]
        refine wp_cond_true (by rw [hK.rho (.tmp 55) _ rfl]; exact congrArg Value.bool (decide_eq_true hc2)) ?_
        have hO2 := own_set hrr (i * 4 + 3) (.bool true)
        rw [← e2n true, ← riseL_set R i o o.cnt true ho] at hO2
        have hTc : Touch (fun b => st1.rV.ownBlock = some b) w3 (w3.setCell ⟨g, i * 4 + 3, none⟩ (.bool true)) := (Touch.refl _ w3).setCell (.inl (by rw [hrv]; rfl)) _
        have hstp : Step arB st1 w3 st1 (w3.setCell ⟨g, i * 4 + 3, none⟩ (.bool true)) := ⟨hTc.mono fun b _ hb => .inr (.inl hb), fun b h => .inl h⟩
        have fin : ∀ a L, Kn 97 L a → bodyPost Yba.prog Yba.f19 (fun e w' => e = .returned (.tuple #[]) ∧ ∃ st', ARB D F B0 arB st' (rz R r) Qo w' ∧ Step arB st w0 st' w') .ret a (w3.setCell ⟨g, i * 4 + 3, none⟩ (.bool true)) := by
          intro a L hK
          refine kret0 hK rfl ⟨rfl, st1, ?_, hSt1.trans hstp⟩
          rw [hrz, hup]
          refine ⟨?_, ⟨(fun h => by rw [hra] at h; cases h), fun h => by have h2 := congrArg List.length h; simp only [List.length_set, List.length_nil] at h2; omega⟩, by rw [← hup, ← hrz]; exact hwf.rz hr, fun b hF => Nat.lt_of_lt_of_le (hF1 b hF) hTc.size⟩
          have hAf := hA1.wR (w' := (w3.setCell ⟨g, i * 4 + 3, none⟩ (.bool true))) hTc (R' := R.set i ⟨o.p, o.old, o.cnt, true⟩) (by rw [List.length_set, hrv]; exact hO2)
          have hixx : ix R = ix (R.set i ⟨o.p, o.old, o.cnt, true⟩) := funext fun p => (ix_set R i o (⟨o.p, o.old, o.cnt, true⟩) ho rfl p).symm
          rw [hixx] at hAf
          exact hAf
        cases hb : o.by_ with
        | true =>
          rw [hb] at q3
          refine wp_region_lit ?_
          refine kl hK 63 rfl (by decide) rfl (fun ρ hρ => r_mv _ rfl (hρ _ _ rfl)) ?_
          clear hK a; intro a hK
          refine kl hK 64 rfl (by decide) rfl (fun ρ hρ => r_mv _ rfl (hρ _ _ rfl)) ?_
          clear hK a; intro a hK
          refine kl hK 65 rfl (by decide) rfl (fun ρ hρ => r_nil _ rfl (hρ _ _ rfl)) ?_
          clear hK a; intro a hK
          refine kl hK 66 rfl (by decide) rfl (fun ρ hρ => r_fa46_3 _ rfl (hρ _ _ rfl)) ?_
          clear hK a; intro a hK
          refine kl hK 67 rfl (by decide) rfl (fun ρ hρ => r_ld4 _ rfl (hρ _ _ rfl) q3) ?_
          clear hK a; intro a hK
          refine kl hK 68 rfl (by decide) rfl (fun ρ hρ => r_mv _ rfl (hρ _ _ rfl)) ?_
          clear hK a; intro a hK
          refine klu hK 69 5 68 rfl (by decide) rfl (by kernel_rfl) rfl rfl ?_
          clear hK a; intro a hK
          refine klu hK 70 5 68 rfl (by decide) rfl (by kernel_rfl) rfl rfl ?_
          clear hK a; intro a hK
          refine kl hK 71 rfl (by decide) rfl (fun ρ hρ => r_pickT _ _ _ rfl rfl (hρ _ _ rfl) (hρ _ _ rfl)) ?_
          clear hK a; intro a hK
          refine kl hK 72 rfl (by decide) rfl (fun ρ hρ => r_nil _ rfl (hρ _ _ rfl)) ?_
          clear hK a; intro a hK
          refine kl hK 73 rfl (by decide) rfl (fun ρ hρ => r_fa46_3 _ rfl (hρ _ _ rfl)) ?_
          clear hK a; intro a hK
          refine kst hK rfl rfl (fun ρ hρ => r_sto4 _ _ rfl (hρ _ _ rfl) (hρ _ _ rfl) q3 z3) ?_
          refine wpList_nil ?_
          show Code.wp Yba.prog _ _ _ _
          refine wp_ret ?_
          try simp only [Exit.inBlock, Exit.then]
          exact fin _ _ hK
        | false =>
          rw [hb] at q3
          refine wp_region_lit ?_
          refine kl hK 63 rfl (by decide) rfl (fun ρ hρ => r_mv _ rfl (hρ _ _ rfl)) ?_
          clear hK a; intro a hK
          refine kl hK 64 rfl (by decide) rfl (fun ρ hρ => r_mv _ rfl (hρ _ _ rfl)) ?_
          clear hK a; intro a hK
          refine kl hK 65 rfl (by decide) rfl (fun ρ hρ => r_nil _ rfl (hρ _ _ rfl)) ?_
          clear hK a; intro a hK
          refine kl hK 66 rfl (by decide) rfl (fun ρ hρ => r_fa46_3 _ rfl (hρ _ _ rfl)) ?_
          clear hK a; intro a hK
          refine kl hK 67 rfl (by decide) rfl (fun ρ hρ => r_ld4 _ rfl (hρ _ _ rfl) q3) ?_
          clear hK a; intro a hK
          refine kl hK 68 rfl (by decide) rfl (fun ρ hρ => r_mv _ rfl (hρ _ _ rfl)) ?_
          clear hK a; intro a hK
          refine klg hK 69 5 68 rfl (by decide) rfl (by kernel_rfl) rfl rfl (fun ρ hρ => r_fo46_3 _ rfl (hρ _ _ rfl)) ?_
          clear hK a; intro a hK
          refine klg hK 70 5 68 rfl (by decide) rfl (by kernel_rfl) rfl rfl (fun ρ hρ => r_ld4 _ rfl (hρ _ _ rfl) x3) ?_
          clear hK a; intro a hK
          refine kl hK 71 rfl (by decide) rfl (fun ρ hρ => r_pickE _ _ _ rfl rfl (hρ _ _ rfl) (hρ _ _ rfl)) ?_
          clear hK a; intro a hK
          refine kl hK 72 rfl (by decide) rfl (fun ρ hρ => r_nil _ rfl (hρ _ _ rfl)) ?_
          clear hK a; intro a hK
          refine kl hK 73 rfl (by decide) rfl (fun ρ hρ => r_fa46_3 _ rfl (hρ _ _ rfl)) ?_
          clear hK a; intro a hK
          refine kst hK rfl rfl (fun ρ hρ => r_sto4 _ _ rfl (hρ _ _ rfl) (hρ _ _ rfl) q3 z3) ?_
          refine wpList_nil ?_
          show Code.wp Yba.prog _ _ _ _
          refine wp_ret ?_
          try simp only [Exit.inBlock, Exit.then]
          exact fin _ _ hK
      · have hup : up o r.cnt = o := by rw [hupE, if_neg hc2]
        refine wp_cond_false (by rw [hK.rho (.tmp 55) _ rfl]; exact congrArg Value.bool (decide_eq_false hc2)) ?_
        refine wp_skip ?_
        show Code.wp Yba.prog _ _ _ _
        refine wp_ret ?_
        try simp only [Exit.inBlock, Exit.then]
        have hset : R.set i o = R := by
          apply List.ext_getElem?
          intro j
          rw [List.getElem?_set]
          by_cases e : i = j
          · subst e; rw [if_pos rfl, ho, if_pos hil]
          · rw [if_neg e]
        refine kret0 hK rfl ⟨rfl, st1, ?_, hSt1⟩
        rw [hrz, hup, hset]
        exact ⟨hA1, ⟨(fun h => by rw [hra] at h; cases h), fun h => by have h2 := congrArg List.length h; simp only [List.length_set, List.length_nil] at h2; omega⟩, hwf, hF1⟩
end Go.Proofs.Ybulkexuo
