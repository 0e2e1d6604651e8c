import Derived.Test.YbulkexuoN1
import Derived.Test.YbulkexuoPeel
namespace Go.Proofs.Ybulkexuo
open Go.RowKit
set_option linter.unusedSimpArgs false
set_option linter.unusedVariables false

/-- the cells of p's hand-off -/
def PD.hcell (D : PD) (p : Nat) : Nat → Value
  | 0 => .int .i32 (D.hto p)
  | 1 => .int .i32 (D.hpos p)
  | 2 => .int .i32 (D.hcnt p)
  | _ => .int .i32 (D.hat p)
theorem hcell_new (D : PD) (p : Nat) (w : World) : (w.alloc (.cells #[.int .i32 (D.hto p), .int .i32 (D.hpos p), .int .i32 (D.hcnt p), .int .i32 (D.hat p)] 27)).rowIs w.heap.size 27 4 (D.hcell p) :=
  World.rowIs_alloc w _ 27 (D.hcell p) fun i hi => by
    match i, hi with
    | 0, _ => rfl
    | 1, _ => rfl
    | 2, _ => rfl
    | 3, _ => rfl
def set4 (w : World) (b : Nat) (v0 v1 v2 v3 : Value) : World := (((w.setCell ⟨b, 0, none⟩ v0).setCell ⟨b, 1, none⟩ v1).setCell ⟨b, 2, none⟩ v2).setCell ⟨b, 3, none⟩ v3
theorem set4_row {w : World} {b : Nat} {t : TypeId} {f : Nat → Value} (h : w.rowIs b t 4 f) (D : PD) (p : Nat) : (set4 w b (.int .i32 (D.hto p)) (.int .i32 (D.hpos p)) (.int .i32 (D.hcnt p)) (.int .i32 (D.hat p))).rowIs b t 4 (D.hcell p) :=
  ((((h.set 0 _).set 1 _).set 2 _).set 3 _).congr fun i hi => by
    match i, hi with
    | 0, _ => rfl
    | 1, _ => rfl
    | 2, _ => rfl
    | 3, _ => rfl
theorem set4_below {N : Nat} {w0 w : World} {b : Nat} (h : Below N w0 w) (hb : N ≤ b) (v0 v1 v2 v3 : Value) : Below N w0 (set4 w b v0 v1 v2 v3) := (((h.setCell (p := ⟨b, 0, none⟩) hb _).setCell (p := ⟨b, 1, none⟩) hb _).setCell (p := ⟨b, 2, none⟩) hb _).setCell (p := ⟨b, 3, none⟩) hb _
theorem set4_other (w : World) {b k : Nat} (h : k ≠ b) (v0 v1 v2 v3 : Value) : (set4 w b v0 v1 v2 v3).heap[k]? = w.heap[k]? := by
  unfold set4
  rw [Below.heap_setCell _ _ _ _ h, Below.heap_setCell _ _ _ _ h, Below.heap_setCell _ _ _ _ h, Below.heap_setCell _ _ _ _ h]
theorem r_sx27 {ρ : Operand → Value} {o : Oper} {w : World} (x y : Operand) (ho : o.op = .store 27 x y) {b : Nat} {f : Nat → Value} {z0 z1 z2 z3 : Int} (hr : w.rowIs b 27 4 f) (h : ρ x = ptr b) (h' : ρ y = .agg #[.int .i32 z0, .int .i32 z1, .int .i32 z2, .int .i32 z3]) :
    (execOp ρ o).run Yba.prog w = .ok .skip (set4 w b (.int .i32 z0) (.int .i32 z1) (.int .i32 z2) (.int .i32 z3)) := by
  have r1 := hr.set 0 (.int .i32 z0)
  have r2 := r1.set 1 (.int .i32 z1)
  have r3 := r2.set 2 (.int .i32 z2)
  have c0 := hr.cell (i := 0) (by omega)
  have c1 := r1.cell (i := 1) (by omega)
  have c2 := r2.cell (i := 2) (by omega)
  have c3 := r3.cell (i := 3) (by omega)
  have f0 := hr.frozen 0
  have f1 := r1.frozen 1
  have f2 := r2.frozen 2
  have f3 := r3.frozen 3
  clear hr r1 r2 r3
  unfold ptr at *
  unfold set4
  have u27 := Yba.underlying27
  have u21 := Yba.underlying21
  unfold execOp; rw [ho]; simp only; go_simp

/-- a frame's two copies of hand-offs: of q at hB, of x at cB -/
structure H2 (D : PD) (w0 w : World) (hB cB q x : Nat) : Prop where
  bel : Below w0.heap.size w0 w
  h : w.rowIs hB 27 4 (D.hcell q)
  c : w.rowIs cB 27 4 (D.hcell x)
  ne : hB ≠ cB
  ge : w0.heap.size ≤ cB
theorem H2.below {D : PD} {w0 w w' : World} {hB cB q x : Nat} (h : H2 D w0 w hB cB q x) (hb : Below w.heap.size w w') : H2 D w0 w' hB cB q x :=
  ⟨bel_trans h.bel hb, h.h.of_block (hb.block _ h.h.lt), h.c.of_block (hb.block _ h.c.lt), h.ne, h.ge⟩
theorem H2.turn {D : PD} {w0 w : World} {hB cB q x : Nat} (h : H2 D w0 w hB cB q x) (y : Nat) : H2 D w0 (set4 w cB (.int .i32 (D.hto y)) (.int .i32 (D.hpos y)) (.int .i32 (D.hcnt y)) (.int .i32 (D.hat y))) hB cB q y :=
  ⟨set4_below h.bel h.ge _ _ _ _, h.h.of_block (set4_other _ h.ne _ _ _ _), set4_row h.c D y, h.ne, h.ge⟩
theorem H2.cells {D : PD} {w0 w : World} {hB cB q x : Nat} (h : H2 D w0 w hB cB q x) : w.cell? ⟨hB, 2, none⟩ = some (.int .i32 (D.hcnt q)) ∧ w.cell? ⟨cB, 0, none⟩ = some (.int .i32 (D.hto x)) ∧ w.cell? ⟨cB, 1, none⟩ = some (.int .i32 (D.hpos x)) ∧ w.cell? ⟨cB, 3, none⟩ = some (.int .i32 (D.hat x)) :=
  ⟨h.h.cell (i := 2) (by omega), h.c.cell (i := 0) (by omega), h.c.cell (i := 1) (by omega), h.c.cell (i := 3) (by omega)⟩

set_option maxRecDepth 100000 in
theorem m25 (D : PD) (hD : D.Fine) (mB q : Nat) (hq : q < D.N) (hoff : ¬ D.off q D.aAt) (w0 : World) (hM : MV D w0 mB) (hB cB : Nat) (K : Act → World → Prop) (a : Act) (w : World) (hK : Kn 72 ((7, .int .i32 (0 : Nat)) :: (6, ptr cB) :: (5, ptr hB) :: (1, .int .i32 q) :: (0, ptr mB) :: []) a) (hH : H2 D w0 w hB cB q q) :
    Code.wp Yba.prog (nav [1, 1, 1, 1, 0, 1] (Yba.f25.body.getD .skip)) (Exit.then K (bodyPost Yba.prog Yba.f25 fun e w' => e = .returned (.int .i32 (D.hoff q)) ∧ Below w0.heap.size w0 w')) a w := by
  have hN := hD.N20
  refine loop_n K (fun n a w => ∃ s x, n = D.N - s ∧ (x + s ≤ q ∧ 0 ≤ D.hat x ∧ D.ch D.N q = D.ch (D.N - s) x) ∧ Kn 72 ((7, .int .i32 (s : Nat)) :: (6, ptr cB) :: (5, ptr hB) :: (1, .int .i32 q) :: (0, ptr mB) :: []) a ∧ H2 D w0 w hB cB q x) ⟨0, q, rfl, ⟨by omega, by unfold PD.off at hoff; omega, rfl⟩, hK, hH⟩ ?_
  clear hK hH a w
  rintro n a w R ⟨s, x, hn, ⟨hsx, hat0, hch⟩, hK, hH⟩ hR
  have hMw := hM.below hH.bel
  have c7 := hMw.c7
  obtain ⟨hc2, cc0, cc1, cc3⟩ := hH.cells
  have hxN : x < D.N := by omega
  have hy := hD.hto x hxN
  have hdn := hD.down x hxN hat0
  have hfu : D.ch (D.N - s) x = if (D.lkp (D.hto x)).2 = true then decide (D.hpos x ≤ (D.lkp (D.hto x)).1) else if D.off (D.hto x) D.aAt then false else D.ch (D.N - (s + 1)) (D.hto x) := by
    obtain ⟨f, hf⟩ : ∃ f, D.N - s = f + 1 := ⟨D.N - s - 1, by omega⟩
    rw [hf, show D.N - (s + 1) = f by omega]
    rfl
  rw [hfu] at hch
  refine wp_seq ?_
  refine wp_seq ?_
  refine wp_region_lit ?_
  refine kl hK 30 rfl (by decide) rfl (fun ρ hρ => r_mv _ rfl (hρ _ _ rfl)) ?_
  clear hK a; intro a hK
  refine kl hK 31 rfl (by decide) rfl (fun ρ hρ => r_mv _ rfl (hρ _ _ rfl)) ?_
  clear hK a; intro a hK
  refine kl hK 32 rfl (by decide) rfl (fun ρ hρ => r_nil _ rfl (hρ _ _ rfl)) ?_
  clear hK a; intro a hK
  refine kl hK 33 rfl (by decide) rfl (fun ρ hρ => r_fo66_7 _ rfl (hρ _ _ rfl)) ?_
  clear hK a; intro a hK
  refine kl hK 34 rfl (by decide) rfl (fun ρ hρ => r_ld21 _ rfl (hρ _ _ rfl) c7) ?_
  clear hK a; intro a hK
  refine kl hK 35 rfl (by decide) rfl (fun ρ hρ => r_lss21 _ _ rfl (hρ _ _ rfl) (hρ _ _ rfl)) ?_
  clear hK a; intro a hK
  refine wpList_nil ?_
  show Code.wp Yba.prog _ _ _ _
  refine wp_cond_true (by rw [hK.rho (.tmp 35) _ rfl]; exact congrArg Value.bool (decide_eq_true (by omega))) ?_
  refine wp_skip ?_
  show Code.wp Yba.prog _ _ _ _
  replace hK := hK.sub (M := (7, .int .i32 (s : Nat)) :: (6, ptr cB) :: (5, ptr hB) :: (1, .int .i32 q) :: (0, ptr mB) :: []) ⟨rfl, rfl, rfl, rfl, rfl, trivial⟩
  refine wp_seq ?_
  refine wp_block ?_
  refine wp_seq ?_
  refine wp_seq ?_
  refine wp_region_lit ?_
  refine kl hK 39 rfl (by decide) rfl (fun ρ hρ => r_mv _ rfl (hρ _ _ rfl)) ?_
  clear hK a; intro a hK
  refine kl hK 40 rfl (by decide) rfl (fun ρ hρ => r_fo27_0 _ rfl (hρ _ _ rfl)) ?_
  clear hK a; intro a hK
  refine kl hK 41 rfl (by decide) rfl (fun ρ hρ => r_ld21 _ rfl (hρ _ _ rfl) cc0) ?_
  clear hK a; intro a hK
  refine kc hK 42 rfl (by decide) rfl (fun ρ hρ => r_call10 _ _ rfl (hρ _ _ rfl) (hρ _ _ rfl) (hρ _ _ rfl)) (mlookup_any D hD mB (D.hto x) hy w hMw) ?_
  rintro e w1 ⟨rfl, hb1⟩
  refine ⟨_, rfl, ?_⟩
  clear hK a; intro a hK
  refine kl hK 38 rfl (by decide) rfl (fun ρ hρ => r_mv _ rfl (hρ _ _ rfl)) ?_
  clear hK a; intro a hK
  refine kl hK 43 rfl (by decide) rfl (fun ρ hρ => r_ext _ 0 rfl (hρ _ _ rfl) rfl) ?_
  clear hK a; intro a hK
  refine kl hK 44 rfl (by decide) rfl (fun ρ hρ => r_ext _ 1 rfl (hρ _ _ rfl) rfl) ?_
  clear hK a; intro a hK
  refine kl hK 8 rfl (by decide) rfl (fun ρ hρ => r_as _ rfl (hρ _ _ rfl)) ?_
  clear hK a; intro a hK
  refine kl hK 9 rfl (by decide) rfl (fun ρ hρ => r_as _ rfl (hρ _ _ rfl)) ?_
  clear hK a; intro a hK
  refine wpList_nil ?_
  show Code.wp Yba.prog _ _ _ _
  replace hH := hH.below hb1
  replace hMw := hMw.below hb1
  obtain ⟨hc2, cc0, cc1, cc3⟩ := hH.cells
  refine wp_seq ?_
  refine wp_region_lit ?_
  refine kl hK 45 rfl (by decide) rfl (fun ρ hρ => r_mv _ rfl (hρ _ _ rfl)) ?_
  clear hK a; intro a hK
  refine wpList_nil ?_
  show Code.wp Yba.prog _ _ _ _
  by_cases hl : (D.lkp (D.hto x)).2 = true
  · rw [if_pos hl] at hch
    refine wp_cond_true (by rw [hK.rho (.tmp 45) _ rfl]; exact congrArg Value.bool (hl)) ?_
    refine wp_seq ?_
    refine wp_seq ?_
    refine wp_region_lit ?_
    refine kl hK 46 rfl (by decide) rfl (fun ρ hρ => r_mv _ rfl (hρ _ _ rfl)) ?_
    clear hK a; intro a hK
    refine kl hK 47 rfl (by decide) rfl (fun ρ hρ => r_fo27_1 _ rfl (hρ _ _ rfl)) ?_
    clear hK a; intro a hK
    refine kl hK 48 rfl (by decide) rfl (fun ρ hρ => r_ld21 _ rfl (hρ _ _ rfl) cc1) ?_
    clear hK a; intro a hK
    refine kl hK 49 rfl (by decide) rfl (fun ρ hρ => r_lss21 _ _ rfl (hρ _ _ rfl) (hρ _ _ rfl)) ?_
    clear hK a; intro a hK
    refine wpList_nil ?_
    show Code.wp Yba.prog _ _ _ _
    by_cases hv : (D.lkp (D.hto x)).1 < D.hpos x
    · have hz : D.hoff q = 0 := by
        unfold PD.hoff
        rw [if_neg hoff, hch, decide_eq_false (by omega)]
        rfl
      refine wp_cond_true (by rw [hK.rho (.tmp 49) _ rfl]; exact congrArg Value.bool (decide_eq_true hv)) ?_
      refine wp_seq ?_
      refine wp_region_lit ?_
      refine kl hK 4 rfl (by decide) rfl (fun ρ hρ => r_as _ rfl (hρ _ _ rfl)) ?_
      clear hK a; intro a hK
      refine wpList_nil ?_
      show Code.wp Yba.prog _ _ _ _
      refine wp_ret ?_
      try simp only [Exit.inBlock, Exit.then]
      exact kret1 (s := 4) hK rfl rfl ⟨by rw [hz], hH.bel⟩
    · have hz : D.hoff q = D.hcnt q := by
        unfold PD.hoff
        rw [if_neg hoff, hch, decide_eq_true (by omega)]
        rfl
      refine wp_cond_false (by rw [hK.rho (.tmp 49) _ rfl]; exact congrArg Value.bool (decide_eq_false hv)) ?_
      refine wp_skip ?_
      show Code.wp Yba.prog _ _ _ _
      refine wp_seq ?_
      refine wp_region_lit ?_
      refine kl hK 50 rfl (by decide) rfl (fun ρ hρ => r_fo27_2 _ rfl (hρ _ _ rfl)) ?_
      clear hK a; intro a hK
      refine kl hK 51 rfl (by decide) rfl (fun ρ hρ => r_ld21 _ rfl (hρ _ _ rfl) hc2) ?_
      clear hK a; intro a hK
      refine kl hK 4 rfl (by decide) rfl (fun ρ hρ => r_as _ rfl (hρ _ _ rfl)) ?_
      clear hK a; intro a hK
      refine wpList_nil ?_
      show Code.wp Yba.prog _ _ _ _
      refine wp_ret ?_
      try simp only [Exit.inBlock, Exit.then]
      exact kret1 (s := 4) hK rfl rfl ⟨by rw [hz], hH.bel⟩
  · rw [if_neg hl] at hch
    have hl2 : (D.lkp (D.hto x)).2 = false := by simpa using hl
    refine wp_cond_false (by rw [hK.rho (.tmp 45) _ rfl]; exact congrArg Value.bool (hl2)) ?_
    refine wp_skip ?_
    show Code.wp Yba.prog _ _ _ _
    replace hK := hK.sub (M := (7, .int .i32 (s : Nat)) :: (6, ptr cB) :: (5, ptr hB) :: (1, .int .i32 q) :: (0, ptr mB) :: []) ⟨rfl, rfl, rfl, rfl, rfl, trivial⟩
    obtain ⟨hb, hcap, d1, hlt, hHand⟩ := hMw.hand
    obtain ⟨e0, e1, e2, e3⟩ := hHand (D.hto x) hy
    refine wp_seq ?_
    refine wp_region_noPanic ?_
    refine wp_region_peel' (fun w' => w'.cell? ⟨mB, 1, none⟩ = some (.slice (some ⟨hb, 0, none⟩) D.N hcap) ∧ w'.cell? ⟨cB, 0, none⟩ = some (.int .i32 (D.hto x)) ∧ w'.cell? ⟨hb, D.hto x * 4, none⟩ = some (.int .i32 (D.hto (D.hto x))) ∧ w'.cell? ⟨hb, D.hto x * 4 + 1, none⟩ = some (.int .i32 (D.hpos (D.hto x))) ∧ w'.cell? ⟨hb, D.hto x * 4 + 2, none⟩ = some (.int .i32 (D.hcnt (D.hto x))) ∧ w'.cell? ⟨hb, D.hto x * 4 + 3, none⟩ = some (.int .i32 (D.hat (D.hto x)))) (by simp) (by kernel_rfl) (by kernel_rfl) (by kernel_rfl) ?_
    have hS0 : (fun w' : World => w'.cell? ⟨mB, 1, none⟩ = some (.slice (some ⟨hb, 0, none⟩) D.N hcap) ∧ w'.cell? ⟨cB, 0, none⟩ = some (.int .i32 (D.hto x)) ∧ w'.cell? ⟨hb, D.hto x * 4, none⟩ = some (.int .i32 (D.hto (D.hto x))) ∧ w'.cell? ⟨hb, D.hto x * 4 + 1, none⟩ = some (.int .i32 (D.hpos (D.hto x))) ∧ w'.cell? ⟨hb, D.hto x * 4 + 2, none⟩ = some (.int .i32 (D.hcnt (D.hto x))) ∧ w'.cell? ⟨hb, D.hto x * 4 + 3, none⟩ = some (.int .i32 (D.hat (D.hto x)))) w1.drew := ⟨d1, cc0, e0, e1, e2, e3⟩
    refine kt hK (i := 0) 52 rfl (by kernel_rfl) (by kernel_rfl) (by kernel_rfl) (fun _ _ _ h => h) hS0 rfl (by decide) rfl (fun ρ hρ w' hw' => r_mv _ rfl (hρ _ _ rfl)) ?_
    clear hK a; intro a hK
    refine kt hK (i := 1) 53 rfl (by kernel_rfl) (by kernel_rfl) (by kernel_rfl) (fun _ _ _ h => h) hS0 rfl (by decide) rfl (fun ρ hρ w' hw' => r_nil _ rfl (hρ _ _ rfl)) ?_
    clear hK a; intro a hK
    refine kt hK (i := 2) 54 rfl (by kernel_rfl) (by kernel_rfl) (by kernel_rfl) (fun _ _ _ h => h) hS0 rfl (by decide) rfl (fun ρ hρ w' hw' => r_fo66_1 _ rfl (hρ _ _ rfl)) ?_
    clear hK a; intro a hK
    refine kt hK (i := 3) 55 rfl (by kernel_rfl) (by kernel_rfl) (by kernel_rfl) (fun _ _ _ h => h) hS0 rfl (by decide) rfl (fun ρ hρ w' hw' => r_ld25 _ rfl (hρ _ _ rfl) hw'.1) ?_
    clear hK a; intro a hK
    refine kt hK (i := 4) 56 rfl (by kernel_rfl) (by kernel_rfl) (by kernel_rfl) (fun _ _ _ h => h) hS0 rfl (by decide) rfl (fun ρ hρ w' hw' => r_fo27_0 _ rfl (hρ _ _ rfl)) ?_
    clear hK a; intro a hK
    refine kt hK (i := 5) 57 rfl (by kernel_rfl) (by kernel_rfl) (by kernel_rfl) (fun _ _ _ h => h) hS0 rfl (by decide) rfl (fun ρ hρ w' hw' => r_ld21 _ rfl (hρ _ _ rfl) hw'.2.1) ?_
    clear hK a; intro a hK
    refine kt hK (i := 6) 58 rfl (by kernel_rfl) (by kernel_rfl) (by kernel_rfl) (fun _ _ _ h => h) hS0 rfl (by decide) rfl (fun ρ hρ w' hw' => r_ix25z _ _ rfl hy (hρ _ _ rfl) (hρ _ _ rfl)) ?_
    clear hK a; intro a hK
    refine kt hK (i := 7) 59 rfl (by kernel_rfl) (by kernel_rfl) (by kernel_rfl) (fun _ _ _ h => h) hS0 rfl (by decide) rfl (fun ρ hρ w' hw' => r_ld27 _ rfl (hρ _ _ rfl) hw'.2.2.1 hw'.2.2.2.1 hw'.2.2.2.2.1 hw'.2.2.2.2.2) ?_
    clear hK a; intro a hK
    refine wpAnyH_done (by kernel_rfl) ?_ _
    refine peel_st hK rfl (fun ρ hρ => r_sx27 _ _ rfl (hH.c.of_block rfl) (hρ _ _ rfl) (hρ _ _ rfl)) ?_
    show Code.wp Yba.prog _ _ _ _
    have hH2 : H2 D w0 w1.drew hB cB q x := ⟨hH.bel.drew, hH.h.of_block rfl, hH.c.of_block rfl, hH.ne, hH.ge⟩
    replace hH2 := hH2.turn (D.hto x)
    obtain ⟨hc2', cc0', cc1', cc3'⟩ := hH2.cells
    have c4 := (hM.below hH2.bel).c4
    generalize set4 w1.drew cB (.int .i32 (D.hto (D.hto x))) (.int .i32 (D.hpos (D.hto x))) (.int .i32 (D.hcnt (D.hto x))) (.int .i32 (D.hat (D.hto x))) = w2 at *
    replace hK := hK.sub (M := (7, .int .i32 (s : Nat)) :: (6, ptr cB) :: (5, ptr hB) :: (1, .int .i32 q) :: (0, ptr mB) :: []) ⟨rfl, rfl, rfl, rfl, rfl, trivial⟩
    refine wp_seq ?_
    by_cases h1 : D.hat (D.hto x) < 0
    · have hof : D.off (D.hto x) D.aAt := .inl h1
      have hz : D.hoff q = 0 := by
        unfold PD.hoff
        rw [if_neg hoff, hch, if_pos hof]
        rfl
      refine wp_region_quiet_lit (by kernel_rfl) (by kernel_rfl) ?_
      refine kq hK 60 rfl (by decide) rfl (fun ρ hρ w' hw' => r_fo27_3 _ rfl (hρ _ _ rfl)) ?_
      clear hK a; intro a hK
      refine kq hK 61 rfl (by decide) rfl (fun ρ hρ w' hw' => r_ld21 _ rfl (hρ _ _ rfl) (by obtain ⟨n, rfl⟩ := hw'; exact cc3')) ?_
      clear hK a; intro a hK
      refine kq hK 62 rfl (by decide) rfl (fun ρ hρ w' hw' => r_lss21 _ _ rfl (hρ _ _ rfl) (hρ _ _ rfl)) ?_
      clear hK a; intro a hK
      refine kq hK 63 rfl (by decide) rfl (fun ρ hρ w' hw' => r_mv _ rfl (hρ _ _ rfl)) ?_
      clear hK a; intro a hK
      refine kqu hK 64 3 63 rfl (by decide) rfl (by kernel_rfl) rfl (decide_eq_true h1) ?_
      clear hK a; intro a hK
      refine kqu hK 65 3 63 rfl (by decide) rfl (by kernel_rfl) rfl (decide_eq_true h1) ?_
      clear hK a; intro a hK
      refine kqu hK 66 3 63 rfl (by decide) rfl (by kernel_rfl) rfl (decide_eq_true h1) ?_
      clear hK a; intro a hK
      refine kqu hK 67 3 63 rfl (by decide) rfl (by kernel_rfl) rfl (decide_eq_true h1) ?_
      clear hK a; intro a hK
      refine kqu hK 68 3 63 rfl (by decide) rfl (by kernel_rfl) rfl (decide_eq_true h1) ?_
      clear hK a; intro a hK
      refine kqu hK 69 3 63 rfl (by decide) rfl (by kernel_rfl) rfl (decide_eq_true h1) ?_
      clear hK a; intro a hK
      refine kqu hK 70 3 63 rfl (by decide) rfl (by kernel_rfl) rfl (decide_eq_true h1) ?_
      clear hK a; intro a hK
      refine kq hK 71 rfl (by decide) rfl (fun ρ hρ w' hw' => r_pickT _ _ _ rfl (decide_eq_true h1) (hρ _ _ rfl) (hρ _ _ rfl)) ?_
      clear hK a; intro a hK
      refine wpQuiet_nil ?_
      rintro w' ⟨n, rfl⟩
      show Code.wp Yba.prog _ _ _ _
      refine wp_cond_true (hK.rho (.tmp 71) _ rfl) ?_
      refine wp_seq ?_
      refine wp_region_lit ?_
      refine kl hK 4 rfl (by decide) rfl (fun ρ hρ => r_as _ rfl (hρ _ _ rfl)) ?_
      clear hK a; intro a hK
      refine wpList_nil ?_
      show Code.wp Yba.prog _ _ _ _
      refine wp_ret ?_
      try simp only [Exit.inBlock, Exit.then]
      exact kret1 (s := 4) hK rfl rfl ⟨by rw [hz], bel_drewN hH2.bel _⟩
    · by_cases h2 : D.aAt < D.hat (D.hto x)
      · have hof : D.off (D.hto x) D.aAt := .inr h2
        have hz : D.hoff q = 0 := by
          unfold PD.hoff
          rw [if_neg hoff, hch, if_pos hof]
          rfl
        refine wp_region_quiet_lit (by kernel_rfl) (by kernel_rfl) ?_
        refine kq hK 60 rfl (by decide) rfl (fun ρ hρ w' hw' => r_fo27_3 _ rfl (hρ _ _ rfl)) ?_
        clear hK a; intro a hK
        refine kq hK 61 rfl (by decide) rfl (fun ρ hρ w' hw' => r_ld21 _ rfl (hρ _ _ rfl) (by obtain ⟨n, rfl⟩ := hw'; exact cc3')) ?_
        clear hK a; intro a hK
        refine kq hK 62 rfl (by decide) rfl (fun ρ hρ w' hw' => r_lss21 _ _ rfl (hρ _ _ rfl) (hρ _ _ rfl)) ?_
        clear hK a; intro a hK
        refine kq hK 63 rfl (by decide) rfl (fun ρ hρ w' hw' => r_mv _ rfl (hρ _ _ rfl)) ?_
        clear hK a; intro a hK
        refine kqg hK 64 3 63 rfl (by decide) rfl (by kernel_rfl) rfl (decide_eq_false h1) (fun ρ hρ w' hw' => r_fo27_3 _ rfl (hρ _ _ rfl)) ?_
        clear hK a; intro a hK
        refine kqg hK 65 3 63 rfl (by decide) rfl (by kernel_rfl) rfl (decide_eq_false h1) (fun ρ hρ w' hw' => r_ld21 _ rfl (hρ _ _ rfl) (by obtain ⟨n, rfl⟩ := hw'; exact cc3')) ?_
        clear hK a; intro a hK
        refine kqg hK 66 3 63 rfl (by decide) rfl (by kernel_rfl) rfl (decide_eq_false h1) (fun ρ hρ w' hw' => r_mv _ rfl (hρ _ _ rfl)) ?_
        clear hK a; intro a hK
        refine kqg hK 67 3 63 rfl (by decide) rfl (by kernel_rfl) rfl (decide_eq_false h1) (fun ρ hρ w' hw' => r_nil _ rfl (hρ _ _ rfl)) ?_
        clear hK a; intro a hK
        refine kqg hK 68 3 63 rfl (by decide) rfl (by kernel_rfl) rfl (decide_eq_false h1) (fun ρ hρ w' hw' => r_fo66_4 _ rfl (hρ _ _ rfl)) ?_
        clear hK a; intro a hK
        refine kqg hK 69 3 63 rfl (by decide) rfl (by kernel_rfl) rfl (decide_eq_false h1) (fun ρ hρ w' hw' => r_ld21 _ rfl (hρ _ _ rfl) (by obtain ⟨n, rfl⟩ := hw'; exact c4)) ?_
        clear hK a; intro a hK
        refine kqg hK 70 3 63 rfl (by decide) rfl (by kernel_rfl) rfl (decide_eq_false h1) (fun ρ hρ w' hw' => r_gtr21 _ _ rfl (hρ _ _ rfl) (hρ _ _ rfl)) ?_
        clear hK a; intro a hK
        refine kq hK 71 rfl (by decide) rfl (fun ρ hρ w' hw' => r_pickE _ _ _ rfl (decide_eq_false h1) (hρ _ _ rfl) (hρ _ _ rfl)) ?_
        clear hK a; intro a hK
        refine wpQuiet_nil ?_
        rintro w' ⟨n, rfl⟩
        show Code.wp Yba.prog _ _ _ _
        refine wp_cond_true (by rw [hK.rho (.tmp 71) _ rfl]; exact congrArg Value.bool (decide_eq_true h2)) ?_
        refine wp_seq ?_
        refine wp_region_lit ?_
        refine kl hK 4 rfl (by decide) rfl (fun ρ hρ => r_as _ rfl (hρ _ _ rfl)) ?_
        clear hK a; intro a hK
        refine wpList_nil ?_
        show Code.wp Yba.prog _ _ _ _
        refine wp_ret ?_
        try simp only [Exit.inBlock, Exit.then]
        exact kret1 (s := 4) hK rfl rfl ⟨by rw [hz], bel_drewN hH2.bel _⟩
      · have hof : ¬ D.off (D.hto x) D.aAt := fun h => by unfold PD.off at h; omega
        rw [if_neg hof] at hch
        refine wp_region_quiet_lit (by kernel_rfl) (by kernel_rfl) ?_
        refine kq hK 60 rfl (by decide) rfl (fun ρ hρ w' hw' => r_fo27_3 _ rfl (hρ _ _ rfl)) ?_
        clear hK a; intro a hK
        refine kq hK 61 rfl (by decide) rfl (fun ρ hρ w' hw' => r_ld21 _ rfl (hρ _ _ rfl) (by obtain ⟨n, rfl⟩ := hw'; exact cc3')) ?_
        clear hK a; intro a hK
        refine kq hK 62 rfl (by decide) rfl (fun ρ hρ w' hw' => r_lss21 _ _ rfl (hρ _ _ rfl) (hρ _ _ rfl)) ?_
        clear hK a; intro a hK
        refine kq hK 63 rfl (by decide) rfl (fun ρ hρ w' hw' => r_mv _ rfl (hρ _ _ rfl)) ?_
        clear hK a; intro a hK
        refine kqg hK 64 3 63 rfl (by decide) rfl (by kernel_rfl) rfl (decide_eq_false h1) (fun ρ hρ w' hw' => r_fo27_3 _ rfl (hρ _ _ rfl)) ?_
        clear hK a; intro a hK
        refine kqg hK 65 3 63 rfl (by decide) rfl (by kernel_rfl) rfl (decide_eq_false h1) (fun ρ hρ w' hw' => r_ld21 _ rfl (hρ _ _ rfl) (by obtain ⟨n, rfl⟩ := hw'; exact cc3')) ?_
        clear hK a; intro a hK
        refine kqg hK 66 3 63 rfl (by decide) rfl (by kernel_rfl) rfl (decide_eq_false h1) (fun ρ hρ w' hw' => r_mv _ rfl (hρ _ _ rfl)) ?_
        clear hK a; intro a hK
        refine kqg hK 67 3 63 rfl (by decide) rfl (by kernel_rfl) rfl (decide_eq_false h1) (fun ρ hρ w' hw' => r_nil _ rfl (hρ _ _ rfl)) ?_
        clear hK a; intro a hK
        refine kqg hK 68 3 63 rfl (by decide) rfl (by kernel_rfl) rfl (decide_eq_false h1) (fun ρ hρ w' hw' => r_fo66_4 _ rfl (hρ _ _ rfl)) ?_
        clear hK a; intro a hK
        refine kqg hK 69 3 63 rfl (by decide) rfl (by kernel_rfl) rfl (decide_eq_false h1) (fun ρ hρ w' hw' => r_ld21 _ rfl (hρ _ _ rfl) (by obtain ⟨n, rfl⟩ := hw'; exact c4)) ?_
        clear hK a; intro a hK
        refine kqg hK 70 3 63 rfl (by decide) rfl (by kernel_rfl) rfl (decide_eq_false h1) (fun ρ hρ w' hw' => r_gtr21 _ _ rfl (hρ _ _ rfl) (hρ _ _ rfl)) ?_
        clear hK a; intro a hK
        refine kq hK 71 rfl (by decide) rfl (fun ρ hρ w' hw' => r_pickE _ _ _ rfl (decide_eq_false h1) (hρ _ _ rfl) (hρ _ _ rfl)) ?_
        clear hK a; intro a hK
        refine wpQuiet_nil ?_
        rintro w' ⟨n, rfl⟩
        show Code.wp Yba.prog _ _ _ _
        refine wp_cond_false (by rw [hK.rho (.tmp 71) _ rfl]; exact congrArg Value.bool (decide_eq_false h2)) ?_
        refine wp_skip ?_
        show Code.wp Yba.prog _ _ _ _
        refine wp_region_lit ?_
        refine kl hK 36 rfl (by decide) rfl (fun ρ hρ => r_mv _ rfl (hρ _ _ rfl)) ?_
        clear hK a; intro a hK
        refine kl hK 37 rfl (by decide) rfl (fun ρ hρ => r_inc21 _ rfl (by omega) (hρ _ _ rfl) (hρ _ _ rfl)) ?_
        clear hK a; intro a hK
        refine kl hK 7 rfl (by decide) rfl (fun ρ hρ => r_as _ rfl (hρ _ _ rfl)) ?_
        clear hK a; intro a hK
        refine wpList_nil ?_
        exact hR (D.N - (s + 1)) _ _ (by omega) ⟨s + 1, D.hto x, rfl, ⟨by omega, by omega, hch⟩, hK.sub ⟨rfl, rfl, rfl, rfl, rfl, trivial⟩, hH2.below (bel_drewN (Below.refl _ _) _)⟩

set_option maxRecDepth 100000 in
theorem mhoff_any (D : PD) (hD : D.Fine) (mB q : Nat) (hq : q < D.N) (w0 : World) (hM : MV D w0 mB) :
    Calls Yba.prog 25 #[ptr mB, .int .i32 q] w0 fun e w' => e = .returned (.int .i32 (D.hoff q)) ∧ Below w0.heap.size w0 w' := by
  refine calls_of_wp (c := Yba.f25.body.getD .skip) Yba.func25 (by kernel_rfl) ?_
  rw [Yba.ntmps25]
  have hK := kn_call [ptr mB, .int .i32 q] 72 (L := [(1, .int .i32 q), (0, ptr mB)]) ⟨rfl, rfl, trivial⟩ (by simp)
  generalize ({ tmps := [ptr mB, .int .i32 q].toArray ++ Array.replicate (72 - [ptr mB, .int .i32 q].toArray.size) undef, defers := [] } : Act) = a at *
  obtain ⟨hb, hcap, d1, hlt, hHand⟩ := hM.hand
  obtain ⟨e0, e1, e2, e3⟩ := hHand q hq
  have hb1 := bel_alloc (Below.refl w0.heap.size w0) (.cells #[.int .i32 (D.hto q), .int .i32 (D.hpos q), .int .i32 (D.hcnt q), .int .i32 (D.hat q)] 27)
  have r1 := hcell_new D q w0
  have c4 := (hM.below hb1).c4
  conv => arg 2; whnf
  refine wp_seq ?_
  refine wp_region_lit ?_
  refine kl hK 4 rfl (by decide) rfl (fun ρ hρ => r_as _ rfl (hρ _ _ rfl)) ?_
  clear hK a; intro a hK
  refine wpList_nil ?_
  show Code.wp Yba.prog _ _ _ _
  refine wp_seq ?_
  refine wp_region_lit ?_
  refine kl hK 10 rfl (by decide) rfl (fun ρ hρ => r_mv _ rfl (hρ _ _ rfl)) ?_
  clear hK a; intro a hK
  refine kl hK 11 rfl (by decide) rfl (fun ρ hρ => r_nil _ rfl (hρ _ _ rfl)) ?_
  clear hK a; intro a hK
  refine kl hK 12 rfl (by decide) rfl (fun ρ hρ => r_fo66_1 _ rfl (hρ _ _ rfl)) ?_
  clear hK a; intro a hK
  refine kl hK 13 rfl (by decide) rfl (fun ρ hρ => r_ld25 _ rfl (hρ _ _ rfl) d1) ?_
  clear hK a; intro a hK
  refine kl hK 14 rfl (by decide) rfl (fun ρ hρ => r_mv _ rfl (hρ _ _ rfl)) ?_
  clear hK a; intro a hK
  refine kl hK 15 rfl (by decide) rfl (fun ρ hρ => r_ix25z _ _ rfl hq (hρ _ _ rfl) (hρ _ _ rfl)) ?_
  clear hK a; intro a hK
  refine kl hK 16 rfl (by decide) rfl (fun ρ hρ => r_ld27 _ rfl (hρ _ _ rfl) e0 e1 e2 e3) ?_
  clear hK a; intro a hK
  refine kl hK 5 rfl (by decide) rfl (fun ρ hρ => r_al27 rfl) ?_
  clear hK a; intro a hK
  refine kst hK rfl rfl (fun ρ hρ => r_st27 (w := w0) _ _ rfl (hρ _ _ rfl) (hρ _ _ rfl)) ?_
  refine wpList_nil ?_
  show Code.wp Yba.prog _ _ _ _
  replace hK := hK.sub (M := (5, ptr w0.heap.size) :: (1, .int .i32 q) :: (0, ptr mB) :: []) ⟨rfl, rfl, rfl, trivial⟩
  have k0 : _ = some (Value.int .i32 (D.hto q)) := r1.cell (i := 0) (by omega)
  have k1 : _ = some (Value.int .i32 (D.hpos q)) := r1.cell (i := 1) (by omega)
  have k2 : _ = some (Value.int .i32 (D.hcnt q)) := r1.cell (i := 2) (by omega)
  have k3 : _ = some (Value.int .i32 (D.hat q)) := r1.cell (i := 3) (by omega)
  have hsz : w0.heap.size < (w0.alloc (.cells #[.int .i32 (D.hto q), .int .i32 (D.hpos q), .int .i32 (D.hcnt q), .int .i32 (D.hat q)] 27)).heap.size := r1.lt
  generalize hw1 : w0.alloc (.cells #[.int .i32 (D.hto q), .int .i32 (D.hpos q), .int .i32 (D.hcnt q), .int .i32 (D.hat q)] 27) = w1 at *
  clear hw1
  refine wp_seq ?_
  refine wp_seq ?_
  by_cases h1 : D.hat q < 0
  · have hz : D.hoff q = 0 := if_pos (.inl h1)
    refine wp_region_quiet_lit (by kernel_rfl) (by kernel_rfl) ?_
    refine kq hK 17 rfl (by decide) rfl (fun ρ hρ w' hw' => r_fo27_3 _ rfl (hρ _ _ rfl)) ?_
    clear hK a; intro a hK
    refine kq hK 18 rfl (by decide) rfl (fun ρ hρ w' hw' => r_ld21 _ rfl (hρ _ _ rfl) (by obtain ⟨n, rfl⟩ := hw'; exact k3)) ?_
    clear hK a; intro a hK
    refine kq hK 19 rfl (by decide) rfl (fun ρ hρ w' hw' => r_lss21 _ _ rfl (hρ _ _ rfl) (hρ _ _ rfl)) ?_
    clear hK a; intro a hK
    refine kq hK 20 rfl (by decide) rfl (fun ρ hρ w' hw' => r_mv _ rfl (hρ _ _ rfl)) ?_
    clear hK a; intro a hK
    refine kqu hK 21 3 20 rfl (by decide) rfl (by kernel_rfl) rfl (decide_eq_true h1) ?_
    clear hK a; intro a hK
    refine kqu hK 22 3 20 rfl (by decide) rfl (by kernel_rfl) rfl (decide_eq_true h1) ?_
    clear hK a; intro a hK
    refine kqu hK 23 3 20 rfl (by decide) rfl (by kernel_rfl) rfl (decide_eq_true h1) ?_
    clear hK a; intro a hK
    refine kqu hK 24 3 20 rfl (by decide) rfl (by kernel_rfl) rfl (decide_eq_true h1) ?_
    clear hK a; intro a hK
    refine kqu hK 25 3 20 rfl (by decide) rfl (by kernel_rfl) rfl (decide_eq_true h1) ?_
    clear hK a; intro a hK
    refine kqu hK 26 3 20 rfl (by decide) rfl (by kernel_rfl) rfl (decide_eq_true h1) ?_
    clear hK a; intro a hK
    refine kqu hK 27 3 20 rfl (by decide) rfl (by kernel_rfl) rfl (decide_eq_true h1) ?_
    clear hK a; intro a hK
    refine kq hK 28 rfl (by decide) rfl (fun ρ hρ w' hw' => r_pickT _ _ _ rfl (decide_eq_true h1) (hρ _ _ rfl) (hρ _ _ rfl)) ?_
    clear hK a; intro a hK
    refine wpQuiet_nil ?_
    rintro w' ⟨n, rfl⟩
    show Code.wp Yba.prog _ _ _ _
    refine wp_cond_true (hK.rho (.tmp 28) _ rfl) ?_
    refine wp_seq ?_
    refine wp_region_lit ?_
    refine kl hK 4 rfl (by decide) rfl (fun ρ hρ => r_as _ rfl (hρ _ _ rfl)) ?_
    clear hK a; intro a hK
    refine wpList_nil ?_
    show Code.wp Yba.prog _ _ _ _
    refine wp_ret ?_
    try simp only [Exit.inBlock, Exit.then]
    exact kret1 (s := 4) hK rfl rfl ⟨by rw [hz], bel_drewN hb1 _⟩
  · by_cases h2 : D.aAt < D.hat q
    · have hz : D.hoff q = 0 := if_pos (.inr h2)
      refine wp_region_quiet_lit (by kernel_rfl) (by kernel_rfl) ?_
      refine kq hK 17 rfl (by decide) rfl (fun ρ hρ w' hw' => r_fo27_3 _ rfl (hρ _ _ rfl)) ?_
      clear hK a; intro a hK
      refine kq hK 18 rfl (by decide) rfl (fun ρ hρ w' hw' => r_ld21 _ rfl (hρ _ _ rfl) (by obtain ⟨n, rfl⟩ := hw'; exact k3)) ?_
      clear hK a; intro a hK
      refine kq hK 19 rfl (by decide) rfl (fun ρ hρ w' hw' => r_lss21 _ _ rfl (hρ _ _ rfl) (hρ _ _ rfl)) ?_
      clear hK a; intro a hK
      refine kq hK 20 rfl (by decide) rfl (fun ρ hρ w' hw' => r_mv _ rfl (hρ _ _ rfl)) ?_
      clear hK a; intro a hK
      refine kqg hK 21 3 20 rfl (by decide) rfl (by kernel_rfl) rfl (decide_eq_false h1) (fun ρ hρ w' hw' => r_fo27_3 _ rfl (hρ _ _ rfl)) ?_
      clear hK a; intro a hK
      refine kqg hK 22 3 20 rfl (by decide) rfl (by kernel_rfl) rfl (decide_eq_false h1) (fun ρ hρ w' hw' => r_ld21 _ rfl (hρ _ _ rfl) (by obtain ⟨n, rfl⟩ := hw'; exact k3)) ?_
      clear hK a; intro a hK
      refine kqg hK 23 3 20 rfl (by decide) rfl (by kernel_rfl) rfl (decide_eq_false h1) (fun ρ hρ w' hw' => r_mv _ rfl (hρ _ _ rfl)) ?_
      clear hK a; intro a hK
      refine kqg hK 24 3 20 rfl (by decide) rfl (by kernel_rfl) rfl (decide_eq_false h1) (fun ρ hρ w' hw' => r_nil _ rfl (hρ _ _ rfl)) ?_
      clear hK a; intro a hK
      refine kqg hK 25 3 20 rfl (by decide) rfl (by kernel_rfl) rfl (decide_eq_false h1) (fun ρ hρ w' hw' => r_fo66_4 _ rfl (hρ _ _ rfl)) ?_
      clear hK a; intro a hK
      refine kqg hK 26 3 20 rfl (by decide) rfl (by kernel_rfl) rfl (decide_eq_false h1) (fun ρ hρ w' hw' => r_ld21 _ rfl (hρ _ _ rfl) (by obtain ⟨n, rfl⟩ := hw'; exact c4)) ?_
      clear hK a; intro a hK
      refine kqg hK 27 3 20 rfl (by decide) rfl (by kernel_rfl) rfl (decide_eq_false h1) (fun ρ hρ w' hw' => r_gtr21 _ _ rfl (hρ _ _ rfl) (hρ _ _ rfl)) ?_
      clear hK a; intro a hK
      refine kq hK 28 rfl (by decide) rfl (fun ρ hρ w' hw' => r_pickE _ _ _ rfl (decide_eq_false h1) (hρ _ _ rfl) (hρ _ _ rfl)) ?_
      clear hK a; intro a hK
      refine wpQuiet_nil ?_
      rintro w' ⟨n, rfl⟩
      show Code.wp Yba.prog _ _ _ _
      refine wp_cond_true (by rw [hK.rho (.tmp 28) _ rfl]; exact congrArg Value.bool (decide_eq_true h2)) ?_
      refine wp_seq ?_
      refine wp_region_lit ?_
      refine kl hK 4 rfl (by decide) rfl (fun ρ hρ => r_as _ rfl (hρ _ _ rfl)) ?_
      clear hK a; intro a hK
      refine wpList_nil ?_
      show Code.wp Yba.prog _ _ _ _
      refine wp_ret ?_
      try simp only [Exit.inBlock, Exit.then]
      exact kret1 (s := 4) hK rfl rfl ⟨by rw [hz], bel_drewN hb1 _⟩
    · have hof : ¬ D.off q D.aAt := fun h => by unfold PD.off at h; omega
      refine wp_region_quiet_lit (by kernel_rfl) (by kernel_rfl) ?_
      refine kq hK 17 rfl (by decide) rfl (fun ρ hρ w' hw' => r_fo27_3 _ rfl (hρ _ _ rfl)) ?_
      clear hK a; intro a hK
      refine kq hK 18 rfl (by decide) rfl (fun ρ hρ w' hw' => r_ld21 _ rfl (hρ _ _ rfl) (by obtain ⟨n, rfl⟩ := hw'; exact k3)) ?_
      clear hK a; intro a hK
      refine kq hK 19 rfl (by decide) rfl (fun ρ hρ w' hw' => r_lss21 _ _ rfl (hρ _ _ rfl) (hρ _ _ rfl)) ?_
      clear hK a; intro a hK
      refine kq hK 20 rfl (by decide) rfl (fun ρ hρ w' hw' => r_mv _ rfl (hρ _ _ rfl)) ?_
      clear hK a; intro a hK
      refine kqg hK 21 3 20 rfl (by decide) rfl (by kernel_rfl) rfl (decide_eq_false h1) (fun ρ hρ w' hw' => r_fo27_3 _ rfl (hρ _ _ rfl)) ?_
      clear hK a; intro a hK
      refine kqg hK 22 3 20 rfl (by decide) rfl (by kernel_rfl) rfl (decide_eq_false h1) (fun ρ hρ w' hw' => r_ld21 _ rfl (hρ _ _ rfl) (by obtain ⟨n, rfl⟩ := hw'; exact k3)) ?_
      clear hK a; intro a hK
      refine kqg hK 23 3 20 rfl (by decide) rfl (by kernel_rfl) rfl (decide_eq_false h1) (fun ρ hρ w' hw' => r_mv _ rfl (hρ _ _ rfl)) ?_
      clear hK a; intro a hK
      refine kqg hK 24 3 20 rfl (by decide) rfl (by kernel_rfl) rfl (decide_eq_false h1) (fun ρ hρ w' hw' => r_nil _ rfl (hρ _ _ rfl)) ?_
      clear hK a; intro a hK
      refine kqg hK 25 3 20 rfl (by decide) rfl (by kernel_rfl) rfl (decide_eq_false h1) (fun ρ hρ w' hw' => r_fo66_4 _ rfl (hρ _ _ rfl)) ?_
      clear hK a; intro a hK
      refine kqg hK 26 3 20 rfl (by decide) rfl (by kernel_rfl) rfl (decide_eq_false h1) (fun ρ hρ w' hw' => r_ld21 _ rfl (hρ _ _ rfl) (by obtain ⟨n, rfl⟩ := hw'; exact c4)) ?_
      clear hK a; intro a hK
      refine kqg hK 27 3 20 rfl (by decide) rfl (by kernel_rfl) rfl (decide_eq_false h1) (fun ρ hρ w' hw' => r_gtr21 _ _ rfl (hρ _ _ rfl) (hρ _ _ rfl)) ?_
      clear hK a; intro a hK
      refine kq hK 28 rfl (by decide) rfl (fun ρ hρ w' hw' => r_pickE _ _ _ rfl (decide_eq_false h1) (hρ _ _ rfl) (hρ _ _ rfl)) ?_
      clear hK a; intro a hK
      refine wpQuiet_nil ?_
      rintro w' ⟨n, rfl⟩
      show Code.wp Yba.prog _ _ _ _
      refine wp_cond_false (by rw [hK.rho (.tmp 28) _ rfl]; exact congrArg Value.bool (decide_eq_false h2)) ?_
      refine wp_skip ?_
      show Code.wp Yba.prog _ _ _ _
      have r1' : (w1.drewN n).rowIs w0.heap.size 27 4 (D.hcell q) := r1
      replace hb1 := bel_drewN hb1 n
      have k0' : (w1.drewN n).cell? ⟨w0.heap.size, 0, none⟩ = some (.int .i32 (D.hto q)) := k0
      have k1' : (w1.drewN n).cell? ⟨w0.heap.size, 1, none⟩ = some (.int .i32 (D.hpos q)) := k1
      have k2' : (w1.drewN n).cell? ⟨w0.heap.size, 2, none⟩ = some (.int .i32 (D.hcnt q)) := k2
      have k3' : (w1.drewN n).cell? ⟨w0.heap.size, 3, none⟩ = some (.int .i32 (D.hat q)) := k3
      have hsz' : w0.heap.size < (w1.drewN n).heap.size := hsz
      generalize w1.drewN n = w2 at *
      replace hK := hK.sub (M := (5, ptr w0.heap.size) :: (1, .int .i32 q) :: (0, ptr mB) :: []) ⟨rfl, rfl, rfl, trivial⟩
      refine wp_seq ?_
      refine wp_region_lit ?_
      refine kl hK 29 rfl (by decide) rfl (fun ρ hρ => r_ld27z _ rfl (hρ _ _ rfl) k0' k1' k2' k3') ?_
      clear hK a; intro a hK
      refine kl hK 6 rfl (by decide) rfl (fun ρ hρ => r_al27 rfl) ?_
      clear hK a; intro a hK
      refine kst hK rfl rfl (fun ρ hρ => r_st27 (w := w2) _ _ rfl (hρ _ _ rfl) (hρ _ _ rfl)) ?_
      refine wpList_nil ?_
      show Code.wp Yba.prog _ _ _ _
      refine wp_seq ?_
      refine wp_seq ?_
      refine wp_region_lit ?_
      refine kl hK 7 rfl (by decide) rfl (fun ρ hρ => r_as _ rfl (hρ _ _ rfl)) ?_
      clear hK a; intro a hK
      refine wpList_nil ?_
      show Code.wp Yba.prog _ _ _ _
      refine m25 D hD mB q hq hof w0 hM w0.heap.size w2.heap.size _ a _ (hK.sub ⟨rfl, rfl, rfl, rfl, rfl, trivial⟩) ?_
      exact ⟨bel_alloc hb1 _, r1'.of_block (Below.heap_alloc _ _ _ hsz'), hcell_new D q w2, by omega, Nat.le_of_lt hsz'⟩
end Go.Proofs.Ybulkexuo
