import Derived.Test.YbulkexuoN4
namespace Go.Proofs.Ybulkexuo
open Go.RowKit
set_option linter.unusedSimpArgs false
set_option linter.unusedVariables false

/-- the frame's copy of a hand-off, of x at hB, and of the clock at cB -/
structure H1 (D : PD) (arB : Nat) (w0 w : World) (hB cB x : Nat) : Prop where
  bel : Below w0.heap.size w0 w
  h : w.rowIs hB 27 4 (D.hcell x)
  c : w.rowIs cB 58 6 (fun j => ((D.clk arB)[j]?).getD undef)
  ne : cB ≠ hB
  ge : w0.heap.size ≤ hB
theorem H1.below {D : PD} {arB : Nat} {w0 w w' : World} {hB cB x : Nat} (h : H1 D arB w0 w hB cB x) (hb : Below w.heap.size w w') : H1 D arB w0 w' hB cB x :=
  ⟨bel_trans h.bel hb, h.h.of_block (hb.block _ h.h.lt), h.c.of_block (hb.block _ h.c.lt), h.ne, h.ge⟩
theorem H1.turn {D : PD} {arB : Nat} {w0 w : World} {hB cB x : Nat} (h : H1 D arB w0 w hB cB x) (y : Nat) : H1 D arB w0 (set4 w hB (.int .i32 (D.hto y)) (.int .i32 (D.hpos y)) (.int .i32 (D.hcnt y)) (.int .i32 (D.hat y))) hB cB y :=
  ⟨set4_below h.bel h.ge _ _ _ _, set4_row h.h D y, h.c.of_block (set4_other _ h.ne _ _ _ _), h.ne, h.ge⟩
theorem H1.hc {D : PD} {arB : Nat} {w0 w : World} {hB cB x : Nat} (h : H1 D arB w0 w hB cB x) : w.cell? ⟨hB, 0, none⟩ = some (.int .i32 (D.hto x)) ∧ w.cell? ⟨hB, 1, none⟩ = some (.int .i32 (D.hpos x)) ∧ w.cell? ⟨hB, 3, none⟩ = some (.int .i32 (D.hat x)) :=
  ⟨h.h.cell (i := 0) (by omega), h.h.cell (i := 1) (by omega), h.h.cell (i := 3) (by omega)⟩
theorem H1.cc {D : PD} {arB : Nat} {w0 w : World} {hB cB x : Nat} (h : H1 D arB w0 w hB cB x) : w.cell? ⟨cB, 0, none⟩ = some (ptr arB) ∧ w.cell? ⟨cB, 1, none⟩ = some (.int .i32 0) ∧ w.cell? ⟨cB, 2, none⟩ = some (.int .i32 D.ll) ∧ w.cell? ⟨cB, 3, none⟩ = some (.int .i32 D.asp) ∧ w.cell? ⟨cB, 4, none⟩ = some (.int .i32 D.asc) ∧ w.cell? ⟨cB, 5, none⟩ = some (.int .i32 D.aAt) :=
  ⟨h.c.cell (i := 0) (by omega), h.c.cell (i := 1) (by omega), h.c.cell (i := 2) (by omega), h.c.cell (i := 3) (by omega), h.c.cell (i := 4) (by omega), h.c.cell (i := 5) (by omega)⟩

set_option maxRecDepth 100000 in
theorem m34 (D : PD) (hD : D.Fine) (arB q : Nat) (hq : q < D.N) (hoff : ¬ D.off q D.aAt) (w0 : World) (hC : CK D w0 arB) (hB cB : Nat) (a : Act) (w : World) (hK : Kn 127 ((5, ptr hB) :: (2, ptr cB) :: (1, .int .i32 q) :: []) a) (hH : H1 D arB w0 w hB cB q) :
    Code.wp Yba.prog (nav [1, 1, 1, 1] (Yba.f34.body.getD .skip)) (bodyPost Yba.prog Yba.f34 fun e w' => e = .returned (.int .i32 (D.hoff q)) ∧ Below w0.heap.size w0 w') a w := by
  have hN := hD.N20
  refine wp_then ?_
  refine loop_n _ (fun n a w => ∃ s x, n = D.N - s ∧ (x + s ≤ q ∧ 0 ≤ D.hat x ∧ D.ch D.N q = D.ch (D.N - s) x) ∧ Kn 127 ((5, ptr hB) :: (2, ptr cB) :: (1, .int .i32 q) :: []) a ∧ H1 D arB w0 w hB cB x) ⟨0, q, rfl, ⟨by omega, by unfold PD.off at hoff; omega, rfl⟩, hK, hH⟩ ?_
  clear hK hH a w
  rintro n a w R ⟨s, x, hn, ⟨hsx, hat0, hch⟩, hK, hH⟩ hR
  have hCw := hC.below hH.bel
  obtain ⟨h0, h1', h3⟩ := hH.hc
  obtain ⟨k0, k1, k2, k3, k4, k5⟩ := hH.cc
  have hxN : x < D.N := by omega
  have hy := hD.hto x hxN
  have hdn := hD.down x hxN hat0
  have hfu : D.ch (D.N - s) x = if (D.lkp (D.hto x)).2 = true then decide (D.hpos x ≤ (D.lkp (D.hto x)).1) else if D.off (D.hto x) D.aAt then false else D.ch (D.N - (s + 1)) (D.hto x) := by
    obtain ⟨f, hf⟩ : ∃ f, D.N - s = f + 1 := ⟨D.N - s - 1, by omega⟩
    rw [hf, show D.N - (s + 1) = f by omega]
    rfl
  rw [hfu] at hch
  refine wp_block ?_
  refine wp_seq ?_
  refine wp_seq ?_
  refine wp_region_lit ?_
  refine kl hK 88 rfl (by decide) rfl (fun ρ hρ => r_ld58z _ rfl (hρ _ _ rfl) k0 k1 k2 k3 k4 k5) ?_
  clear hK a; intro a hK
  refine kl hK 89 rfl (by decide) rfl (fun ρ hρ => r_fo27_0 _ rfl (hρ _ _ rfl)) ?_
  clear hK a; intro a hK
  refine kl hK 90 rfl (by decide) rfl (fun ρ hρ => r_ld21 _ rfl (hρ _ _ rfl) h0) ?_
  clear hK a; intro a hK
  refine kc hK 91 rfl (by decide) rfl (fun ρ hρ => r_call21 _ _ rfl (hρ _ _ rfl) (hρ _ _ rfl) (hρ _ _ rfl)) (clookup_any D hD arB (D.hto x) hy w hCw) ?_
  rintro e w1 ⟨rfl, hb1⟩
  refine ⟨_, rfl, ?_⟩
  clear hK a; intro a hK
  refine kl hK 87 rfl (by decide) rfl (fun ρ hρ => r_mv _ rfl (hρ _ _ rfl)) ?_
  clear hK a; intro a hK
  refine kl hK 92 rfl (by decide) rfl (fun ρ hρ => r_ext _ 0 rfl (hρ _ _ rfl) rfl) ?_
  clear hK a; intro a hK
  refine kl hK 93 rfl (by decide) rfl (fun ρ hρ => r_ext _ 1 rfl (hρ _ _ rfl) rfl) ?_
  clear hK a; intro a hK
  refine kl hK 10 rfl (by decide) rfl (fun ρ hρ => r_as _ rfl (hρ _ _ rfl)) ?_
  clear hK a; intro a hK
  refine kl hK 11 rfl (by decide) rfl (fun ρ hρ => r_as _ rfl (hρ _ _ rfl)) ?_
  clear hK a; intro a hK
  refine wpList_nil ?_
  show Code.wp Yba.prog _ _ _ _
  replace hH := hH.below hb1
  replace hCw := hCw.below hb1
  obtain ⟨h0, h1', h3⟩ := hH.hc
  obtain ⟨k0, k1, k2, k3, k4, k5⟩ := hH.cc
  obtain ⟨hb, hcap, d1, hlt, hHand⟩ := hCw.hand
  obtain ⟨-, -, q2, -⟩ := hHand q hq
  obtain ⟨e0, e1, e2, e3⟩ := hHand (D.hto x) hy
  refine wp_seq ?_
  refine wp_region_lit ?_
  refine kl hK 94 rfl (by decide) rfl (fun ρ hρ => r_mv _ rfl (hρ _ _ rfl)) ?_
  clear hK a; intro a hK
  refine wpList_nil ?_
  show Code.wp Yba.prog _ _ _ _
  by_cases hl : (D.lkp (D.hto x)).2 = true
  · rw [if_pos hl] at hch
    refine wp_cond_true (by rw [hK.rho (.tmp 94) _ rfl]; exact congrArg Value.bool (hl)) ?_
    refine wp_seq ?_
    refine wp_seq ?_
    refine wp_region_lit ?_
    refine kl hK 95 rfl (by decide) rfl (fun ρ hρ => r_mv _ rfl (hρ _ _ rfl)) ?_
    clear hK a; intro a hK
    refine kl hK 96 rfl (by decide) rfl (fun ρ hρ => r_fo27_1 _ rfl (hρ _ _ rfl)) ?_
    clear hK a; intro a hK
    refine kl hK 97 rfl (by decide) rfl (fun ρ hρ => r_ld21 _ rfl (hρ _ _ rfl) h1') ?_
    clear hK a; intro a hK
    refine kl hK 98 rfl (by decide) rfl (fun ρ hρ => r_lss21 _ _ rfl (hρ _ _ rfl) (hρ _ _ rfl)) ?_
    clear hK a; intro a hK
    refine wpList_nil ?_
    show Code.wp Yba.prog _ _ _ _
    by_cases hv : (D.lkp (D.hto x)).1 < D.hpos x
    · have hz : D.hoff q = 0 := by
        unfold PD.hoff
        rw [if_neg hoff, hch, decide_eq_false (by omega)]
        rfl
      refine wp_cond_true (by rw [hK.rho (.tmp 98) _ rfl]; exact congrArg Value.bool (decide_eq_true hv)) ?_
      refine wp_seq ?_
      refine wp_region_lit ?_
      refine kl hK 4 rfl (by decide) rfl (fun ρ hρ => r_as _ rfl (hρ _ _ rfl)) ?_
      clear hK a; intro a hK
      refine wpList_nil ?_
      show Code.wp Yba.prog _ _ _ _
      refine wp_ret ?_
      try simp only [Exit.inBlock, Exit.then]
      exact kret1 (s := 4) hK rfl rfl ⟨by rw [hz]; first | done | rfl, hH.bel⟩
    · have hz : D.hoff q = D.hcnt q := by
        unfold PD.hoff
        rw [if_neg hoff, hch, decide_eq_true (by omega)]
        rfl
      refine wp_cond_false (by rw [hK.rho (.tmp 98) _ rfl]; exact congrArg Value.bool (decide_eq_false hv)) ?_
      refine wp_skip ?_
      show Code.wp Yba.prog _ _ _ _
      refine wp_seq ?_
      refine wp_region_lit ?_
      refine kl hK 99 rfl (by decide) rfl (fun ρ hρ => r_fo58_0 _ rfl (hρ _ _ rfl)) ?_
      clear hK a; intro a hK
      refine kl hK 100 rfl (by decide) rfl (fun ρ hρ => r_ld51 _ rfl (hρ _ _ rfl) k0) ?_
      clear hK a; intro a hK
      refine kl hK 101 rfl (by decide) rfl (fun ρ hρ => r_nil _ rfl (hρ _ _ rfl)) ?_
      clear hK a; intro a hK
      refine kl hK 102 rfl (by decide) rfl (fun ρ hρ => r_fo56_2 _ rfl (hρ _ _ rfl)) ?_
      clear hK a; intro a hK
      refine kl hK 103 rfl (by decide) rfl (fun ρ hρ => r_ld25 _ rfl (hρ _ _ rfl) d1) ?_
      clear hK a; intro a hK
      refine kl hK 104 rfl (by decide) rfl (fun ρ hρ => r_mv _ rfl (hρ _ _ rfl)) ?_
      clear hK a; intro a hK
      refine kl hK 105 rfl (by decide) rfl (fun ρ hρ => r_ix25z _ _ rfl hq (hρ _ _ rfl) (hρ _ _ rfl)) ?_
      clear hK a; intro a hK
      refine kl hK 106 rfl (by decide) rfl (fun ρ hρ => r_fa27_2 _ rfl (hρ _ _ rfl)) ?_
      clear hK a; intro a hK
      refine kl hK 107 rfl (by decide) rfl (fun ρ hρ => r_ld21 _ rfl (hρ _ _ rfl) q2) ?_
      clear hK a; intro a hK
      refine kl hK 4 rfl (by decide) rfl (fun ρ hρ => r_as _ rfl (hρ _ _ rfl)) ?_
      clear hK a; intro a hK
      refine wpList_nil ?_
      show Code.wp Yba.prog _ _ _ _
      refine wp_ret ?_
      try simp only [Exit.inBlock, Exit.then]
      exact kret1 (s := 4) hK rfl rfl ⟨by rw [hz]; first | done | rfl, hH.bel⟩
  · rw [if_neg hl] at hch
    have hl2 : (D.lkp (D.hto x)).2 = false := by simpa using hl
    refine wp_cond_false (by rw [hK.rho (.tmp 94) _ rfl]; exact congrArg Value.bool (hl2)) ?_
    refine wp_skip ?_
    show Code.wp Yba.prog _ _ _ _
    replace hK := hK.sub (M := (5, ptr hB) :: (2, ptr cB) :: (1, .int .i32 q) :: []) ⟨rfl, rfl, rfl, trivial⟩
    refine wp_seq ?_
    refine wp_region_noPanic ?_
    refine wp_region_peel' (fun w' => w'.cell? ⟨cB, 0, none⟩ = some (ptr arB) ∧ w'.cell? ⟨arB, 6, none⟩ = some (.slice (some ⟨hb, 0, none⟩) D.N hcap) ∧ w'.cell? ⟨hB, 0, none⟩ = some (.int .i32 (D.hto x)) ∧ w'.cell? ⟨hb, D.hto x * 4, none⟩ = some (.int .i32 (D.hto (D.hto x))) ∧ w'.cell? ⟨hb, D.hto x * 4 + 1, none⟩ = some (.int .i32 (D.hpos (D.hto x))) ∧ w'.cell? ⟨hb, D.hto x * 4 + 2, none⟩ = some (.int .i32 (D.hcnt (D.hto x))) ∧ w'.cell? ⟨hb, D.hto x * 4 + 3, none⟩ = some (.int .i32 (D.hat (D.hto x)))) (by simp) (by kernel_rfl) (by kernel_rfl) (by kernel_rfl) ?_
    have hS0 : (fun w' : World => w'.cell? ⟨cB, 0, none⟩ = some (ptr arB) ∧ w'.cell? ⟨arB, 6, none⟩ = some (.slice (some ⟨hb, 0, none⟩) D.N hcap) ∧ w'.cell? ⟨hB, 0, none⟩ = some (.int .i32 (D.hto x)) ∧ w'.cell? ⟨hb, D.hto x * 4, none⟩ = some (.int .i32 (D.hto (D.hto x))) ∧ w'.cell? ⟨hb, D.hto x * 4 + 1, none⟩ = some (.int .i32 (D.hpos (D.hto x))) ∧ w'.cell? ⟨hb, D.hto x * 4 + 2, none⟩ = some (.int .i32 (D.hcnt (D.hto x))) ∧ w'.cell? ⟨hb, D.hto x * 4 + 3, none⟩ = some (.int .i32 (D.hat (D.hto x)))) w1.drew := ⟨k0, d1, h0, e0, e1, e2, e3⟩
    refine kt hK (i := 0) 108 rfl (by kernel_rfl) (by kernel_rfl) (by kernel_rfl) (fun _ _ _ h => h) hS0 rfl (by decide) rfl (fun ρ hρ w' hw' => r_fo58_0 _ rfl (hρ _ _ rfl)) ?_
    clear hK a; intro a hK
    refine kt hK (i := 1) 109 rfl (by kernel_rfl) (by kernel_rfl) (by kernel_rfl) (fun _ _ _ h => h) hS0 rfl (by decide) rfl (fun ρ hρ w' hw' => r_ld51 _ rfl (hρ _ _ rfl) hw'.1) ?_
    clear hK a; intro a hK
    refine kt hK (i := 2) 110 rfl (by kernel_rfl) (by kernel_rfl) (by kernel_rfl) (fun _ _ _ h => h) hS0 rfl (by decide) rfl (fun ρ hρ w' hw' => r_nil _ rfl (hρ _ _ rfl)) ?_
    clear hK a; intro a hK
    refine kt hK (i := 3) 111 rfl (by kernel_rfl) (by kernel_rfl) (by kernel_rfl) (fun _ _ _ h => h) hS0 rfl (by decide) rfl (fun ρ hρ w' hw' => r_fo56_2 _ rfl (hρ _ _ rfl)) ?_
    clear hK a; intro a hK
    refine kt hK (i := 4) 112 rfl (by kernel_rfl) (by kernel_rfl) (by kernel_rfl) (fun _ _ _ h => h) hS0 rfl (by decide) rfl (fun ρ hρ w' hw' => r_ld25 _ rfl (hρ _ _ rfl) hw'.2.1) ?_
    clear hK a; intro a hK
    refine kt hK (i := 5) 113 rfl (by kernel_rfl) (by kernel_rfl) (by kernel_rfl) (fun _ _ _ h => h) hS0 rfl (by decide) rfl (fun ρ hρ w' hw' => r_fo27_0 _ rfl (hρ _ _ rfl)) ?_
    clear hK a; intro a hK
    refine kt hK (i := 6) 114 rfl (by kernel_rfl) (by kernel_rfl) (by kernel_rfl) (fun _ _ _ h => h) hS0 rfl (by decide) rfl (fun ρ hρ w' hw' => r_ld21 _ rfl (hρ _ _ rfl) hw'.2.2.1) ?_
    clear hK a; intro a hK
    refine kt hK (i := 7) 115 rfl (by kernel_rfl) (by kernel_rfl) (by kernel_rfl) (fun _ _ _ h => h) hS0 rfl (by decide) rfl (fun ρ hρ w' hw' => r_ix25z _ _ rfl hy (hρ _ _ rfl) (hρ _ _ rfl)) ?_
    clear hK a; intro a hK
    refine kt hK (i := 8) 116 rfl (by kernel_rfl) (by kernel_rfl) (by kernel_rfl) (fun _ _ _ h => h) hS0 rfl (by decide) rfl (fun ρ hρ w' hw' => r_ld27 _ rfl (hρ _ _ rfl) hw'.2.2.2.1 hw'.2.2.2.2.1 hw'.2.2.2.2.2.1 hw'.2.2.2.2.2.2) ?_
    clear hK a; intro a hK
    refine wpAnyH_done (by kernel_rfl) ?_ _
    refine peel_st hK rfl (fun ρ hρ => r_sx27 _ _ rfl (hH.h.of_block rfl) (hρ _ _ rfl) (hρ _ _ rfl)) ?_
    show Code.wp Yba.prog _ _ _ _
    have hH2 : H1 D arB w0 w1.drew hB cB x := ⟨hH.bel.drew, hH.h.of_block rfl, hH.c.of_block rfl, hH.ne, hH.ge⟩
    replace hH2 := hH2.turn (D.hto x)
    obtain ⟨h0', h1'', h3'⟩ := hH2.hc
    obtain ⟨-, -, -, -, -, k5'⟩ := hH2.cc
    generalize set4 w1.drew hB (.int .i32 (D.hto (D.hto x))) (.int .i32 (D.hpos (D.hto x))) (.int .i32 (D.hcnt (D.hto x))) (.int .i32 (D.hat (D.hto x))) = w2 at *
    replace hK := hK.sub (M := (5, ptr hB) :: (2, ptr cB) :: (1, .int .i32 q) :: []) ⟨rfl, rfl, rfl, trivial⟩
    refine wp_seq ?_
    by_cases h1 : D.hat (D.hto x) < 0
    · have hof : D.off (D.hto x) D.aAt := .inl h1
      have hz : D.hoff q = 0 := by
        unfold PD.hoff
        rw [if_neg hoff, hch, if_pos hof]
        rfl
      refine wp_region_lit ?_
      refine kl hK 117 rfl (by decide) rfl (fun ρ hρ => r_fo27_3 _ rfl (hρ _ _ rfl)) ?_
      clear hK a; intro a hK
      refine kl hK 118 rfl (by decide) rfl (fun ρ hρ => r_ld21 _ rfl (hρ _ _ rfl) h3') ?_
      clear hK a; intro a hK
      refine kl hK 119 rfl (by decide) rfl (fun ρ hρ => r_lss21 _ _ rfl (hρ _ _ rfl) (hρ _ _ rfl)) ?_
      clear hK a; intro a hK
      refine kl hK 120 rfl (by decide) rfl (fun ρ hρ => r_mv _ rfl (hρ _ _ rfl)) ?_
      clear hK a; intro a hK
      refine klu hK 121 3 120 rfl (by decide) rfl (by kernel_rfl) rfl (decide_eq_true h1) ?_
      clear hK a; intro a hK
      refine klu hK 122 3 120 rfl (by decide) rfl (by kernel_rfl) rfl (decide_eq_true h1) ?_
      clear hK a; intro a hK
      refine klu hK 123 3 120 rfl (by decide) rfl (by kernel_rfl) rfl (decide_eq_true h1) ?_
      clear hK a; intro a hK
      refine klu hK 124 3 120 rfl (by decide) rfl (by kernel_rfl) rfl (decide_eq_true h1) ?_
      clear hK a; intro a hK
      refine klu hK 125 3 120 rfl (by decide) rfl (by kernel_rfl) rfl (decide_eq_true h1) ?_
      clear hK a; intro a hK
      refine kl hK 126 rfl (by decide) rfl (fun ρ hρ => r_pickT _ _ _ rfl (decide_eq_true h1) (hρ _ _ rfl) (hρ _ _ rfl)) ?_
      clear hK a; intro a hK
      refine wpList_nil ?_
      show Code.wp Yba.prog _ _ _ _
      refine wp_cond_true (hK.rho (.tmp 126) _ rfl) ?_
      refine wp_seq ?_
      refine wp_region_lit ?_
      refine kl hK 4 rfl (by decide) rfl (fun ρ hρ => r_as _ rfl (hρ _ _ rfl)) ?_
      clear hK a; intro a hK
      refine wpList_nil ?_
      show Code.wp Yba.prog _ _ _ _
      refine wp_ret ?_
      try simp only [Exit.inBlock, Exit.then]
      exact kret1 (s := 4) hK rfl rfl ⟨by rw [hz]; first | done | rfl, hH2.bel⟩
    · by_cases h2 : D.aAt < D.hat (D.hto x)
      · have hof : D.off (D.hto x) D.aAt := .inr h2
        have hz : D.hoff q = 0 := by
          unfold PD.hoff
          rw [if_neg hoff, hch, if_pos hof]
          rfl
        refine wp_region_lit ?_
        refine kl hK 117 rfl (by decide) rfl (fun ρ hρ => r_fo27_3 _ rfl (hρ _ _ rfl)) ?_
        clear hK a; intro a hK
        refine kl hK 118 rfl (by decide) rfl (fun ρ hρ => r_ld21 _ rfl (hρ _ _ rfl) h3') ?_
        clear hK a; intro a hK
        refine kl hK 119 rfl (by decide) rfl (fun ρ hρ => r_lss21 _ _ rfl (hρ _ _ rfl) (hρ _ _ rfl)) ?_
        clear hK a; intro a hK
        refine kl hK 120 rfl (by decide) rfl (fun ρ hρ => r_mv _ rfl (hρ _ _ rfl)) ?_
        clear hK a; intro a hK
        refine klg hK 121 3 120 rfl (by decide) rfl (by kernel_rfl) rfl (decide_eq_false h1) (fun ρ hρ => r_fo27_3 _ rfl (hρ _ _ rfl)) ?_
        clear hK a; intro a hK
        refine klg hK 122 3 120 rfl (by decide) rfl (by kernel_rfl) rfl (decide_eq_false h1) (fun ρ hρ => r_ld21 _ rfl (hρ _ _ rfl) h3') ?_
        clear hK a; intro a hK
        refine klg hK 123 3 120 rfl (by decide) rfl (by kernel_rfl) rfl (decide_eq_false h1) (fun ρ hρ => r_fo58_3 _ rfl (hρ _ _ rfl)) ?_
        clear hK a; intro a hK
        refine klg hK 124 3 120 rfl (by decide) rfl (by kernel_rfl) rfl (decide_eq_false h1) (fun ρ hρ => r_ld21 _ rfl (hρ _ _ rfl) k5') ?_
        clear hK a; intro a hK
        refine klg hK 125 3 120 rfl (by decide) rfl (by kernel_rfl) rfl (decide_eq_false h1) (fun ρ hρ => r_gtr21 _ _ rfl (hρ _ _ rfl) (hρ _ _ rfl)) ?_
        clear hK a; intro a hK
        refine kl hK 126 rfl (by decide) rfl (fun ρ hρ => r_pickE _ _ _ rfl (decide_eq_false h1) (hρ _ _ rfl) (hρ _ _ rfl)) ?_
        clear hK a; intro a hK
        refine wpList_nil ?_
        show Code.wp Yba.prog _ _ _ _
        refine wp_cond_true (by rw [hK.rho (.tmp 126) _ rfl]; exact congrArg Value.bool (decide_eq_true h2)) ?_
        refine wp_seq ?_
        refine wp_region_lit ?_
        refine kl hK 4 rfl (by decide) rfl (fun ρ hρ => r_as _ rfl (hρ _ _ rfl)) ?_
        clear hK a; intro a hK
        refine wpList_nil ?_
        show Code.wp Yba.prog _ _ _ _
        refine wp_ret ?_
        try simp only [Exit.inBlock, Exit.then]
        exact kret1 (s := 4) hK rfl rfl ⟨by rw [hz]; first | done | rfl, hH2.bel⟩
      · have hof : ¬ D.off (D.hto x) D.aAt := fun h => by unfold PD.off at h; omega
        rw [if_neg hof] at hch
        refine wp_region_lit ?_
        refine kl hK 117 rfl (by decide) rfl (fun ρ hρ => r_fo27_3 _ rfl (hρ _ _ rfl)) ?_
        clear hK a; intro a hK
        refine kl hK 118 rfl (by decide) rfl (fun ρ hρ => r_ld21 _ rfl (hρ _ _ rfl) h3') ?_
        clear hK a; intro a hK
        refine kl hK 119 rfl (by decide) rfl (fun ρ hρ => r_lss21 _ _ rfl (hρ _ _ rfl) (hρ _ _ rfl)) ?_
        clear hK a; intro a hK
        refine kl hK 120 rfl (by decide) rfl (fun ρ hρ => r_mv _ rfl (hρ _ _ rfl)) ?_
        clear hK a; intro a hK
        refine klg hK 121 3 120 rfl (by decide) rfl (by kernel_rfl) rfl (decide_eq_false h1) (fun ρ hρ => r_fo27_3 _ rfl (hρ _ _ rfl)) ?_
        clear hK a; intro a hK
        refine klg hK 122 3 120 rfl (by decide) rfl (by kernel_rfl) rfl (decide_eq_false h1) (fun ρ hρ => r_ld21 _ rfl (hρ _ _ rfl) h3') ?_
        clear hK a; intro a hK
        refine klg hK 123 3 120 rfl (by decide) rfl (by kernel_rfl) rfl (decide_eq_false h1) (fun ρ hρ => r_fo58_3 _ rfl (hρ _ _ rfl)) ?_
        clear hK a; intro a hK
        refine klg hK 124 3 120 rfl (by decide) rfl (by kernel_rfl) rfl (decide_eq_false h1) (fun ρ hρ => r_ld21 _ rfl (hρ _ _ rfl) k5') ?_
        clear hK a; intro a hK
        refine klg hK 125 3 120 rfl (by decide) rfl (by kernel_rfl) rfl (decide_eq_false h1) (fun ρ hρ => r_gtr21 _ _ rfl (hρ _ _ rfl) (hρ _ _ rfl)) ?_
        clear hK a; intro a hK
        refine kl hK 126 rfl (by decide) rfl (fun ρ hρ => r_pickE _ _ _ rfl (decide_eq_false h1) (hρ _ _ rfl) (hρ _ _ rfl)) ?_
        clear hK a; intro a hK
        refine wpList_nil ?_
        show Code.wp Yba.prog _ _ _ _
        refine wp_cond_false (by rw [hK.rho (.tmp 126) _ rfl]; exact congrArg Value.bool (decide_eq_false h2)) ?_
        refine wp_skip ?_
        exact hR (D.N - (s + 1)) _ _ (by omega) ⟨s + 1, D.hto x, rfl, ⟨by omega, by omega, hch⟩, hK.sub ⟨rfl, rfl, rfl, trivial⟩, hH2⟩

set_option maxRecDepth 100000 in
theorem choff_any (D : PD) (hD : D.Fine) (arB q : Nat) (hq : q < D.N) (w0 : World) (hC : CK D w0 arB) :
    Calls Yba.prog 34 #[Value.agg (D.clk arB), .int .i32 q] w0 fun e w' => e = .returned (.int .i32 (D.hoff q)) ∧ Below w0.heap.size w0 w' := by
  refine calls_of_wp (c := Yba.f34.body.getD .skip) Yba.func34 (by kernel_rfl) ?_
  rw [Yba.ntmps34]
  have hK := kn_call [Value.agg (D.clk arB), .int .i32 q] 127 (L := [(1, .int .i32 q), (0, Value.agg (D.clk arB))]) ⟨rfl, rfl, trivial⟩ (by simp)
  generalize ({ tmps := [Value.agg (D.clk arB), .int .i32 q].toArray ++ Array.replicate (127 - [Value.agg (D.clk arB), .int .i32 q].toArray.size) undef, defers := [] } : Act) = a at *
  have hb1 := bel_alloc (Below.refl w0.heap.size w0) (.cells (D.clk arB) 58)
  have r1 := clk_new D arB w0
  have hC1 := hC.below hb1
  have hsz1 : w0.heap.size < (w0.alloc (.cells (D.clk arB) 58)).heap.size := r1.lt
  conv => arg 2; whnf
  refine wp_seq ?_
  refine wp_region_lit ?_
  refine kl hK 2 rfl (by decide) rfl (fun ρ hρ => r_box58 _ rfl (hρ _ _ rfl)) ?_
  clear hK a; intro a hK
  refine kl hK 4 rfl (by decide) rfl (fun ρ hρ => r_as _ rfl (hρ _ _ rfl)) ?_
  clear hK a; intro a hK
  refine wpList_nil ?_
  show Code.wp Yba.prog _ _ _ _
  generalize hw1 : w0.alloc (.cells (D.clk arB) 58) = w1 at *
  clear hw1
  have d0 : w1.cell? ⟨w0.heap.size, 0, none⟩ = some (ptr arB) := r1.cell (i := 0) (by omega)
  obtain ⟨hb, hcap, dh, hlt, hHand⟩ := hC1.hand
  obtain ⟨e0, e1, e2, e3⟩ := hHand q hq
  have r2 := hcell_new D q w1
  have hb2 := bel_alloc hb1 (.cells #[.int .i32 (D.hto q), .int .i32 (D.hpos q), .int .i32 (D.hcnt q), .int .i32 (D.hat q)] 27)
  have r1' := r1.of_block (Below.heap_alloc w1 (.cells #[.int .i32 (D.hto q), .int .i32 (D.hpos q), .int .i32 (D.hcnt q), .int .i32 (D.hat q)] 27) _ hsz1)
  refine wp_seq ?_
  refine wp_region_lit ?_
  refine kl hK 12 rfl (by decide) rfl (fun ρ hρ => r_fo58_0 _ rfl (hρ _ _ rfl)) ?_
  clear hK a; intro a hK
  refine kl hK 13 rfl (by decide) rfl (fun ρ hρ => r_ld51 _ rfl (hρ _ _ rfl) d0) ?_
  clear hK a; intro a hK
  refine kl hK 14 rfl (by decide) rfl (fun ρ hρ => r_nil _ rfl (hρ _ _ rfl)) ?_
  clear hK a; intro a hK
  refine kl hK 15 rfl (by decide) rfl (fun ρ hρ => r_fo56_2 _ rfl (hρ _ _ rfl)) ?_
  clear hK a; intro a hK
  refine kl hK 16 rfl (by decide) rfl (fun ρ hρ => r_ld25 _ rfl (hρ _ _ rfl) dh) ?_
  clear hK a; intro a hK
  refine kl hK 17 rfl (by decide) rfl (fun ρ hρ => r_mv _ rfl (hρ _ _ rfl)) ?_
  clear hK a; intro a hK
  refine kl hK 18 rfl (by decide) rfl (fun ρ hρ => r_ix25z _ _ rfl hq (hρ _ _ rfl) (hρ _ _ rfl)) ?_
  clear hK a; intro a hK
  refine kl hK 19 rfl (by decide) rfl (fun ρ hρ => r_ld27 _ rfl (hρ _ _ rfl) e0 e1 e2 e3) ?_
  clear hK a; intro a hK
  refine kl hK 5 rfl (by decide) rfl (fun ρ hρ => r_al27 rfl) ?_
  clear hK a; intro a hK
  refine kst hK rfl rfl (fun ρ hρ => r_st27 (w := w1) _ _ rfl (hρ _ _ rfl) (hρ _ _ rfl)) ?_
  refine wpList_nil ?_
  show Code.wp Yba.prog _ _ _ _
  generalize hw2 : w1.alloc (.cells #[.int .i32 (D.hto q), .int .i32 (D.hpos q), .int .i32 (D.hcnt q), .int .i32 (D.hat q)] 27) = w2 at *
  clear hw2
  have k3 : w2.cell? ⟨w1.heap.size, 3, none⟩ = some (.int .i32 (D.hat q)) := r2.cell (i := 3) (by omega)
  have c5 : w2.cell? ⟨w0.heap.size, 5, none⟩ = some (.int .i32 D.aAt) := r1'.cell (i := 5) (by omega)
  have c0 : w2.cell? ⟨w0.heap.size, 0, none⟩ = some (ptr arB) := r1'.cell (i := 0) (by omega)
  have ckt := (hC.below hb2).kt
  replace hK := hK.sub (M := (5, ptr w1.heap.size) :: (2, ptr w0.heap.size) :: (1, .int .i32 q) :: []) ⟨rfl, rfl, rfl, trivial⟩
  refine wp_seq ?_
  refine wp_seq ?_
  by_cases h1 : D.hat q < 0
  · have hz : D.hoff q = 0 := if_pos (.inl h1)
    refine wp_region_lit ?_
    refine kl hK 20 rfl (by decide) rfl (fun ρ hρ => r_fo27_3 _ rfl (hρ _ _ rfl)) ?_
    clear hK a; intro a hK
    refine kl hK 21 rfl (by decide) rfl (fun ρ hρ => r_ld21 _ rfl (hρ _ _ rfl) k3) ?_
    clear hK a; intro a hK
    refine kl hK 22 rfl (by decide) rfl (fun ρ hρ => r_lss21 _ _ rfl (hρ _ _ rfl) (hρ _ _ rfl)) ?_
    clear hK a; intro a hK
    refine kl hK 23 rfl (by decide) rfl (fun ρ hρ => r_mv _ rfl (hρ _ _ rfl)) ?_
    clear hK a; intro a hK
    refine klu hK 24 3 23 rfl (by decide) rfl (by kernel_rfl) rfl (decide_eq_true h1) ?_
    clear hK a; intro a hK
    refine klu hK 25 3 23 rfl (by decide) rfl (by kernel_rfl) rfl (decide_eq_true h1) ?_
    clear hK a; intro a hK
    refine klu hK 26 3 23 rfl (by decide) rfl (by kernel_rfl) rfl (decide_eq_true h1) ?_
    clear hK a; intro a hK
    refine klu hK 27 3 23 rfl (by decide) rfl (by kernel_rfl) rfl (decide_eq_true h1) ?_
    clear hK a; intro a hK
    refine klu hK 28 3 23 rfl (by decide) rfl (by kernel_rfl) rfl (decide_eq_true h1) ?_
    clear hK a; intro a hK
    refine kl hK 29 rfl (by decide) rfl (fun ρ hρ => r_pickT _ _ _ rfl (decide_eq_true h1) (hρ _ _ rfl) (hρ _ _ rfl)) ?_
    clear hK a; intro a hK
    refine wpList_nil ?_
    show Code.wp Yba.prog _ _ _ _
    refine wp_cond_true (hK.rho (.tmp 29) _ rfl) ?_
    refine wp_seq ?_
    refine wp_region_lit ?_
    refine kl hK 4 rfl (by decide) rfl (fun ρ hρ => r_as _ rfl (hρ _ _ rfl)) ?_
    clear hK a; intro a hK
    refine wpList_nil ?_
    show Code.wp Yba.prog _ _ _ _
    refine wp_ret ?_
    try simp only [Exit.inBlock, Exit.then]
    exact kret1 (s := 4) hK rfl rfl ⟨by rw [hz]; first | done | rfl, hb2⟩
  · by_cases h2 : D.aAt < D.hat q
    · have hz : D.hoff q = 0 := if_pos (.inr h2)
      refine wp_region_lit ?_
      refine kl hK 20 rfl (by decide) rfl (fun ρ hρ => r_fo27_3 _ rfl (hρ _ _ rfl)) ?_
      clear hK a; intro a hK
      refine kl hK 21 rfl (by decide) rfl (fun ρ hρ => r_ld21 _ rfl (hρ _ _ rfl) k3) ?_
      clear hK a; intro a hK
      refine kl hK 22 rfl (by decide) rfl (fun ρ hρ => r_lss21 _ _ rfl (hρ _ _ rfl) (hρ _ _ rfl)) ?_
      clear hK a; intro a hK
      refine kl hK 23 rfl (by decide) rfl (fun ρ hρ => r_mv _ rfl (hρ _ _ rfl)) ?_
      clear hK a; intro a hK
      refine klg hK 24 3 23 rfl (by decide) rfl (by kernel_rfl) rfl (decide_eq_false h1) (fun ρ hρ => r_fo27_3 _ rfl (hρ _ _ rfl)) ?_
      clear hK a; intro a hK
      refine klg hK 25 3 23 rfl (by decide) rfl (by kernel_rfl) rfl (decide_eq_false h1) (fun ρ hρ => r_ld21 _ rfl (hρ _ _ rfl) k3) ?_
      clear hK a; intro a hK
      refine klg hK 26 3 23 rfl (by decide) rfl (by kernel_rfl) rfl (decide_eq_false h1) (fun ρ hρ => r_fo58_3 _ rfl (hρ _ _ rfl)) ?_
      clear hK a; intro a hK
      refine klg hK 27 3 23 rfl (by decide) rfl (by kernel_rfl) rfl (decide_eq_false h1) (fun ρ hρ => r_ld21 _ rfl (hρ _ _ rfl) c5) ?_
      clear hK a; intro a hK
      refine klg hK 28 3 23 rfl (by decide) rfl (by kernel_rfl) rfl (decide_eq_false h1) (fun ρ hρ => r_gtr21 _ _ rfl (hρ _ _ rfl) (hρ _ _ rfl)) ?_
      clear hK a; intro a hK
      refine kl hK 29 rfl (by decide) rfl (fun ρ hρ => r_pickE _ _ _ rfl (decide_eq_false h1) (hρ _ _ rfl) (hρ _ _ rfl)) ?_
      clear hK a; intro a hK
      refine wpList_nil ?_
      show Code.wp Yba.prog _ _ _ _
      refine wp_cond_true (by rw [hK.rho (.tmp 29) _ rfl]; exact congrArg Value.bool (decide_eq_true h2)) ?_
      refine wp_seq ?_
      refine wp_region_lit ?_
      refine kl hK 4 rfl (by decide) rfl (fun ρ hρ => r_as _ rfl (hρ _ _ rfl)) ?_
      clear hK a; intro a hK
      refine wpList_nil ?_
      show Code.wp Yba.prog _ _ _ _
      refine wp_ret ?_
      try simp only [Exit.inBlock, Exit.then]
      exact kret1 (s := 4) hK rfl rfl ⟨by rw [hz]; first | done | rfl, hb2⟩
    · have hof : ¬ D.off q D.aAt := fun h => by unfold PD.off at h; omega
      refine wp_region_lit ?_
      refine kl hK 20 rfl (by decide) rfl (fun ρ hρ => r_fo27_3 _ rfl (hρ _ _ rfl)) ?_
      clear hK a; intro a hK
      refine kl hK 21 rfl (by decide) rfl (fun ρ hρ => r_ld21 _ rfl (hρ _ _ rfl) k3) ?_
      clear hK a; intro a hK
      refine kl hK 22 rfl (by decide) rfl (fun ρ hρ => r_lss21 _ _ rfl (hρ _ _ rfl) (hρ _ _ rfl)) ?_
      clear hK a; intro a hK
      refine kl hK 23 rfl (by decide) rfl (fun ρ hρ => r_mv _ rfl (hρ _ _ rfl)) ?_
      clear hK a; intro a hK
      refine klg hK 24 3 23 rfl (by decide) rfl (by kernel_rfl) rfl (decide_eq_false h1) (fun ρ hρ => r_fo27_3 _ rfl (hρ _ _ rfl)) ?_
      clear hK a; intro a hK
      refine klg hK 25 3 23 rfl (by decide) rfl (by kernel_rfl) rfl (decide_eq_false h1) (fun ρ hρ => r_ld21 _ rfl (hρ _ _ rfl) k3) ?_
      clear hK a; intro a hK
      refine klg hK 26 3 23 rfl (by decide) rfl (by kernel_rfl) rfl (decide_eq_false h1) (fun ρ hρ => r_fo58_3 _ rfl (hρ _ _ rfl)) ?_
      clear hK a; intro a hK
      refine klg hK 27 3 23 rfl (by decide) rfl (by kernel_rfl) rfl (decide_eq_false h1) (fun ρ hρ => r_ld21 _ rfl (hρ _ _ rfl) c5) ?_
      clear hK a; intro a hK
      refine klg hK 28 3 23 rfl (by decide) rfl (by kernel_rfl) rfl (decide_eq_false h1) (fun ρ hρ => r_gtr21 _ _ rfl (hρ _ _ rfl) (hρ _ _ rfl)) ?_
      clear hK a; intro a hK
      refine kl hK 29 rfl (by decide) rfl (fun ρ hρ => r_pickE _ _ _ rfl (decide_eq_false h1) (hρ _ _ rfl) (hρ _ _ rfl)) ?_
      clear hK a; intro a hK
      refine wpList_nil ?_
      show Code.wp Yba.prog _ _ _ _
      refine wp_cond_false (by rw [hK.rho (.tmp 29) _ rfl]; exact congrArg Value.bool (decide_eq_false h2)) ?_
      refine wp_skip ?_
      show Code.wp Yba.prog _ _ _ _
      refine wp_seq ?_
      refine wp_seq ?_
      refine wp_region_lit ?_
      refine kl hK 30 rfl (by decide) rfl (fun ρ hρ => r_fo58_0 _ rfl (hρ _ _ rfl)) ?_
      clear hK a; intro a hK
      refine kl hK 31 rfl (by decide) rfl (fun ρ hρ => r_ld51 _ rfl (hρ _ _ rfl) c0) ?_
      clear hK a; intro a hK
      refine kl hK 32 rfl (by decide) rfl (fun ρ hρ => r_nil _ rfl (hρ _ _ rfl)) ?_
      clear hK a; intro a hK
      refine kl hK 33 rfl (by decide) rfl (fun ρ hρ => r_fo56_7 _ rfl (hρ _ _ rfl)) ?_
      clear hK a; intro a hK
      refine kl hK 34 rfl (by decide) rfl (fun ρ hρ => r_ld4 _ rfl (hρ _ _ rfl) ckt) ?_
      clear hK a; intro a hK
      refine wpList_nil ?_
      show Code.wp Yba.prog _ _ _ _
      refine wp_cond_false (hK.rho (.tmp 34) _ rfl) ?_
      refine wp_skip ?_
      show Code.wp Yba.prog _ _ _ _
      exact m34 D hD arB q hq hof w0 hC w1.heap.size w0.heap.size a w2 (hK.sub ⟨rfl, rfl, rfl, trivial⟩) ⟨hb2, r2, r1', by omega, Nat.le_of_lt hsz1⟩

set_option maxRecDepth 100000 in
theorem cseen_any (D : PD) (hD : D.Fine) (arB q : Nat) (hq : q < D.N) (w0 : World) (hC : CK D w0 arB) :
    Calls Yba.prog 29 #[Value.agg (D.clk arB), .int .i32 q] w0 fun e w' => e = .returned (.int .i32 (D.seen q)) ∧ Below w0.heap.size w0 w' := by
  refine calls_of_wp (c := Yba.f29.body.getD .skip) Yba.func29 (by kernel_rfl) ?_
  rw [Yba.ntmps29]
  have hK := kn_call [Value.agg (D.clk arB), .int .i32 q] 18 (L := [(1, .int .i32 q), (0, Value.agg (D.clk arB))]) ⟨rfl, rfl, trivial⟩ (by simp)
  generalize ({ tmps := [Value.agg (D.clk arB), .int .i32 q].toArray ++ Array.replicate (18 - [Value.agg (D.clk arB), .int .i32 q].toArray.size) undef, defers := [] } : Act) = a at *
  have hb1 := bel_alloc (Below.refl w0.heap.size w0) (.cells (D.clk arB) 58)
  have r1 := clk_new D arB w0
  have hC1 := hC.below hb1
  have hsz1 : w0.heap.size < (w0.alloc (.cells (D.clk arB) 58)).heap.size := r1.lt
  conv => arg 2; whnf
  refine wp_seq ?_
  refine wp_region_lit ?_
  refine kl hK 2 rfl (by decide) rfl (fun ρ hρ => r_box58 _ rfl (hρ _ _ rfl)) ?_
  clear hK a; intro a hK
  refine kl hK 4 rfl (by decide) rfl (fun ρ hρ => r_as _ rfl (hρ _ _ rfl)) ?_
  clear hK a; intro a hK
  refine wpList_nil ?_
  show Code.wp Yba.prog _ _ _ _
  generalize hw1 : w0.alloc (.cells (D.clk arB) 58) = w1 at *
  clear hw1
  have k0 : w1.cell? ⟨w0.heap.size, 0, none⟩ = some (ptr arB) := r1.cell (i := 0) (by omega)
  have k1 : w1.cell? ⟨w0.heap.size, 1, none⟩ = some (.int .i32 0) := r1.cell (i := 1) (by omega)
  have k2 : w1.cell? ⟨w0.heap.size, 2, none⟩ = some (.int .i32 D.ll) := r1.cell (i := 2) (by omega)
  have k3 : w1.cell? ⟨w0.heap.size, 3, none⟩ = some (.int .i32 D.asp) := r1.cell (i := 3) (by omega)
  have k4 : w1.cell? ⟨w0.heap.size, 4, none⟩ = some (.int .i32 D.asc) := r1.cell (i := 4) (by omega)
  have k5 : w1.cell? ⟨w0.heap.size, 5, none⟩ = some (.int .i32 D.aAt) := r1.cell (i := 5) (by omega)
  refine wp_seq ?_
  refine wp_seq ?_
  refine wp_region_lit ?_
  refine kl hK 8 rfl (by decide) rfl (fun ρ hρ => r_ld58z _ rfl (hρ _ _ rfl) k0 k1 k2 k3 k4 k5) ?_
  clear hK a; intro a hK
  refine kl hK 9 rfl (by decide) rfl (fun ρ hρ => r_mv _ rfl (hρ _ _ rfl)) ?_
  clear hK a; intro a hK
  refine kc hK 10 rfl (by decide) rfl (fun ρ hρ => r_call21 _ _ rfl (hρ _ _ rfl) (hρ _ _ rfl) (hρ _ _ rfl)) (clookup_any D hD arB q hq w1 hC1) ?_
  rintro e w2 ⟨rfl, hb2⟩
  refine ⟨_, rfl, ?_⟩
  clear hK a; intro a hK
  refine kl hK 7 rfl (by decide) rfl (fun ρ hρ => r_mv _ rfl (hρ _ _ rfl)) ?_
  clear hK a; intro a hK
  refine kl hK 11 rfl (by decide) rfl (fun ρ hρ => r_ext _ 0 rfl (hρ _ _ rfl) rfl) ?_
  clear hK a; intro a hK
  refine kl hK 12 rfl (by decide) rfl (fun ρ hρ => r_ext _ 1 rfl (hρ _ _ rfl) rfl) ?_
  clear hK a; intro a hK
  refine kl hK 5 rfl (by decide) rfl (fun ρ hρ => r_as _ rfl (hρ _ _ rfl)) ?_
  clear hK a; intro a hK
  refine kl hK 6 rfl (by decide) rfl (fun ρ hρ => r_as _ rfl (hρ _ _ rfl)) ?_
  clear hK a; intro a hK
  refine wpList_nil ?_
  show Code.wp Yba.prog _ _ _ _
  refine wp_seq ?_
  refine wp_region_lit ?_
  refine kl hK 13 rfl (by decide) rfl (fun ρ hρ => r_mv _ rfl (hρ _ _ rfl)) ?_
  clear hK a; intro a hK
  refine wpList_nil ?_
  show Code.wp Yba.prog _ _ _ _
  by_cases hl : (D.lkp q).2 = true
  · have hz : D.seen q = (D.lkp q).1 := if_pos hl
    refine wp_cond_true (by rw [hK.rho (.tmp 13) _ rfl]; exact congrArg Value.bool (hl)) ?_
    refine wp_seq ?_
    refine wp_region_lit ?_
    refine kl hK 14 rfl (by decide) rfl (fun ρ hρ => r_mv _ rfl (hρ _ _ rfl)) ?_
    clear hK a; intro a hK
    refine kl hK 4 rfl (by decide) rfl (fun ρ hρ => r_as _ rfl (hρ _ _ rfl)) ?_
    clear hK a; intro a hK
    refine wpList_nil ?_
    show Code.wp Yba.prog _ _ _ _
    refine wp_ret ?_
    try simp only [Exit.inBlock, Exit.then]
    exact kret1 (s := 4) hK rfl rfl ⟨by rw [hz]; first | done | rfl, bel_trans hb1 hb2⟩
  · have hz : D.seen q = D.hoff q := if_neg hl
    have hl2 : (D.lkp q).2 = false := by simpa using hl
    refine wp_cond_false (by rw [hK.rho (.tmp 13) _ rfl]; exact congrArg Value.bool (hl2)) ?_
    refine wp_skip ?_
    show Code.wp Yba.prog _ _ _ _
    have r2 := r1.of_block (hb2.block _ hsz1)
    clear k0 k1 k2 k3 k4 k5
    have k0 : w2.cell? ⟨w0.heap.size, 0, none⟩ = some (ptr arB) := r2.cell (i := 0) (by omega)
    have k1 : w2.cell? ⟨w0.heap.size, 1, none⟩ = some (.int .i32 0) := r2.cell (i := 1) (by omega)
    have k2 : w2.cell? ⟨w0.heap.size, 2, none⟩ = some (.int .i32 D.ll) := r2.cell (i := 2) (by omega)
    have k3 : w2.cell? ⟨w0.heap.size, 3, none⟩ = some (.int .i32 D.asp) := r2.cell (i := 3) (by omega)
    have k4 : w2.cell? ⟨w0.heap.size, 4, none⟩ = some (.int .i32 D.asc) := r2.cell (i := 4) (by omega)
    have k5 : w2.cell? ⟨w0.heap.size, 5, none⟩ = some (.int .i32 D.aAt) := r2.cell (i := 5) (by omega)
    refine wp_seq ?_
    refine wp_region_lit ?_
    refine kl hK 15 rfl (by decide) rfl (fun ρ hρ => r_ld58z _ rfl (hρ _ _ rfl) k0 k1 k2 k3 k4 k5) ?_
    clear hK a; intro a hK
    refine kl hK 16 rfl (by decide) rfl (fun ρ hρ => r_mv _ rfl (hρ _ _ rfl)) ?_
    clear hK a; intro a hK
    refine kc hK 17 rfl (by decide) rfl (fun ρ hρ => r_call34 _ _ rfl (hρ _ _ rfl) (hρ _ _ rfl) (hρ _ _ rfl)) (choff_any D hD arB q hq w2 (hC1.below hb2)) ?_
    rintro e w3 ⟨rfl, hb3⟩
    refine ⟨_, rfl, ?_⟩
    clear hK a; intro a hK
    refine kl hK 4 rfl (by decide) rfl (fun ρ hρ => r_as _ rfl (hρ _ _ rfl)) ?_
    clear hK a; intro a hK
    refine wpList_nil ?_
    show Code.wp Yba.prog _ _ _ _
    refine wp_ret ?_
    try simp only [Exit.inBlock, Exit.then]
    exact kret1 (s := 4) hK rfl rfl ⟨by rw [hz]; first | done | rfl, bel_trans hb1 (bel_trans hb2 hb3)⟩
end Go.Proofs.Ybulkexuo
