import Derived.Test.YbulkexuoN2
namespace Go.Proofs.Ybulkexuo
open Go.RowKit
set_option linter.unusedSimpArgs false
set_option linter.unusedVariables false

set_option maxRecDepth 100000 in
theorem mcval_any (D : PD) (hD : D.Fine) (mB q : Nat) (hq : q < D.N) (w0 : World) (hM : MV D w0 mB) :
    Calls Yba.prog 11 #[ptr mB, .int .i32 q] w0 fun e w' => e = .returned (.int .i32 (D.cval q)) ∧ Below w0.heap.size w0 w' := by
  refine calls_of_wp (c := Yba.f11.body.getD .skip) Yba.func11 (by kernel_rfl) ?_
  rw [Yba.ntmps11]
  have hK := kn_call [ptr mB, .int .i32 q] 37 (L := [(1, .int .i32 q), (0, ptr mB)]) ⟨rfl, rfl, trivial⟩ (by simp)
  generalize ({ tmps := [ptr mB, .int .i32 q].toArray ++ Array.replicate (37 - [ptr mB, .int .i32 q].toArray.size) undef, defers := [] } : Act) = a at *
  have tail : ∀ a w, Kn 37 ((5, .int .i32 (D.seen q)) :: (1, .int .i32 q) :: (0, ptr mB) :: []) a → Below w0.heap.size w0 w → Code.wp Yba.prog (nav [1, 1, 1] (Yba.f11.body.getD .skip)) (bodyPost Yba.prog Yba.f11 fun e w' => e = .returned (.int .i32 (D.cval q)) ∧ Below w0.heap.size w0 w') a w := by
    clear hK a
    intro a w hK hb
    have c5 := (hM.below hb).c5
    have c6 := (hM.below hb).c6
    conv => arg 2; whnf
    refine wp_seq ?_
    refine wp_seq ?_
    by_cases h1 : (q : Int) = D.gsp
    · by_cases h2 : D.seen q < D.gsc
      · have hz : D.cval q = D.gsc := if_pos ⟨by omega, h2⟩
        refine wp_region_lit ?_
        refine kl hK 18 rfl (by decide) rfl (fun ρ hρ => r_mv _ rfl (hρ _ _ rfl)) ?_
        clear hK a; intro a hK
        refine kl hK 19 rfl (by decide) rfl (fun ρ hρ => r_mv _ rfl (hρ _ _ rfl)) ?_
        clear hK a; intro a hK
        refine kl hK 20 rfl (by decide) rfl (fun ρ hρ => r_nil _ rfl (hρ _ _ rfl)) ?_
        clear hK a; intro a hK
        refine kl hK 21 rfl (by decide) rfl (fun ρ hρ => r_fo66_5 _ rfl (hρ _ _ rfl)) ?_
        clear hK a; intro a hK
        refine kl hK 22 rfl (by decide) rfl (fun ρ hρ => r_ld21 _ rfl (hρ _ _ rfl) c5) ?_
        clear hK a; intro a hK
        refine kl hK 23 rfl (by decide) rfl (fun ρ hρ => r_eql21 _ _ rfl (hρ _ _ rfl) (hρ _ _ rfl)) ?_
        clear hK a; intro a hK
        refine kl hK 24 rfl (by decide) rfl (fun ρ hρ => r_mv _ rfl (hρ _ _ rfl)) ?_
        clear hK a; intro a hK
        refine klg hK 25 6 24 rfl (by decide) rfl (by kernel_rfl) rfl (decide_eq_true h1) (fun ρ hρ => r_mv _ rfl (hρ _ _ rfl)) ?_
        clear hK a; intro a hK
        refine klg hK 26 6 24 rfl (by decide) rfl (by kernel_rfl) rfl (decide_eq_true h1) (fun ρ hρ => r_nil _ rfl (hρ _ _ rfl)) ?_
        clear hK a; intro a hK
        refine klg hK 27 6 24 rfl (by decide) rfl (by kernel_rfl) rfl (decide_eq_true h1) (fun ρ hρ => r_fo66_6 _ rfl (hρ _ _ rfl)) ?_
        clear hK a; intro a hK
        refine klg hK 28 6 24 rfl (by decide) rfl (by kernel_rfl) rfl (decide_eq_true h1) (fun ρ hρ => r_ld21 _ rfl (hρ _ _ rfl) c6) ?_
        clear hK a; intro a hK
        refine klg hK 29 6 24 rfl (by decide) rfl (by kernel_rfl) rfl (decide_eq_true h1) (fun ρ hρ => r_mv _ rfl (hρ _ _ rfl)) ?_
        clear hK a; intro a hK
        refine klg hK 30 6 24 rfl (by decide) rfl (by kernel_rfl) rfl (decide_eq_true h1) (fun ρ hρ => r_gtr21 _ _ rfl (hρ _ _ rfl) (hρ _ _ rfl)) ?_
        clear hK a; intro a hK
        refine kl hK 31 rfl (by decide) rfl (fun ρ hρ => r_pickT _ _ _ rfl (decide_eq_true h1) (hρ _ _ rfl) (hρ _ _ rfl)) ?_
        clear hK a; intro a hK
        refine wpList_nil ?_
        show Code.wp Yba.prog _ _ _ _
        refine wp_cond_true (by rw [hK.rho (.tmp 31) _ rfl]; exact congrArg Value.bool (decide_eq_true h2)) ?_
        refine wp_region_lit ?_
        refine kl hK 32 rfl (by decide) rfl (fun ρ hρ => r_mv _ rfl (hρ _ _ rfl)) ?_
        clear hK a; intro a hK
        refine kl hK 33 rfl (by decide) rfl (fun ρ hρ => r_nil _ rfl (hρ _ _ rfl)) ?_
        clear hK a; intro a hK
        refine kl hK 34 rfl (by decide) rfl (fun ρ hρ => r_fo66_6 _ rfl (hρ _ _ rfl)) ?_
        clear hK a; intro a hK
        refine kl hK 35 rfl (by decide) rfl (fun ρ hρ => r_ld21 _ rfl (hρ _ _ rfl) c6) ?_
        clear hK a; intro a hK
        refine kl hK 5 rfl (by decide) rfl (fun ρ hρ => r_as _ rfl (hρ _ _ rfl)) ?_
        clear hK a; intro a hK
        refine wpList_nil ?_
        show Code.wp Yba.prog _ _ _ _
        refine wp_seq ?_
        refine wp_region_lit ?_
        refine kl hK 36 rfl (by decide) rfl (fun ρ hρ => r_mv _ rfl (hρ _ _ rfl)) ?_
        clear hK a; intro a hK
        refine kl hK 4 rfl (by decide) rfl (fun ρ hρ => r_as _ rfl (hρ _ _ rfl)) ?_
        clear hK a; intro a hK
        refine wpList_nil ?_
        show Code.wp Yba.prog _ _ _ _
        refine wp_ret ?_
        try simp only [Exit.inBlock, Exit.then]
        exact kret1 (s := 4) hK rfl rfl ⟨by rw [hz], hb⟩
      · have hz : D.cval q = D.seen q := if_neg (fun h => h2 h.2)
        refine wp_region_lit ?_
        refine kl hK 18 rfl (by decide) rfl (fun ρ hρ => r_mv _ rfl (hρ _ _ rfl)) ?_
        clear hK a; intro a hK
        refine kl hK 19 rfl (by decide) rfl (fun ρ hρ => r_mv _ rfl (hρ _ _ rfl)) ?_
        clear hK a; intro a hK
        refine kl hK 20 rfl (by decide) rfl (fun ρ hρ => r_nil _ rfl (hρ _ _ rfl)) ?_
        clear hK a; intro a hK
        refine kl hK 21 rfl (by decide) rfl (fun ρ hρ => r_fo66_5 _ rfl (hρ _ _ rfl)) ?_
        clear hK a; intro a hK
        refine kl hK 22 rfl (by decide) rfl (fun ρ hρ => r_ld21 _ rfl (hρ _ _ rfl) c5) ?_
        clear hK a; intro a hK
        refine kl hK 23 rfl (by decide) rfl (fun ρ hρ => r_eql21 _ _ rfl (hρ _ _ rfl) (hρ _ _ rfl)) ?_
        clear hK a; intro a hK
        refine kl hK 24 rfl (by decide) rfl (fun ρ hρ => r_mv _ rfl (hρ _ _ rfl)) ?_
        clear hK a; intro a hK
        refine klg hK 25 6 24 rfl (by decide) rfl (by kernel_rfl) rfl (decide_eq_true h1) (fun ρ hρ => r_mv _ rfl (hρ _ _ rfl)) ?_
        clear hK a; intro a hK
        refine klg hK 26 6 24 rfl (by decide) rfl (by kernel_rfl) rfl (decide_eq_true h1) (fun ρ hρ => r_nil _ rfl (hρ _ _ rfl)) ?_
        clear hK a; intro a hK
        refine klg hK 27 6 24 rfl (by decide) rfl (by kernel_rfl) rfl (decide_eq_true h1) (fun ρ hρ => r_fo66_6 _ rfl (hρ _ _ rfl)) ?_
        clear hK a; intro a hK
        refine klg hK 28 6 24 rfl (by decide) rfl (by kernel_rfl) rfl (decide_eq_true h1) (fun ρ hρ => r_ld21 _ rfl (hρ _ _ rfl) c6) ?_
        clear hK a; intro a hK
        refine klg hK 29 6 24 rfl (by decide) rfl (by kernel_rfl) rfl (decide_eq_true h1) (fun ρ hρ => r_mv _ rfl (hρ _ _ rfl)) ?_
        clear hK a; intro a hK
        refine klg hK 30 6 24 rfl (by decide) rfl (by kernel_rfl) rfl (decide_eq_true h1) (fun ρ hρ => r_gtr21 _ _ rfl (hρ _ _ rfl) (hρ _ _ rfl)) ?_
        clear hK a; intro a hK
        refine kl hK 31 rfl (by decide) rfl (fun ρ hρ => r_pickT _ _ _ rfl (decide_eq_true h1) (hρ _ _ rfl) (hρ _ _ rfl)) ?_
        clear hK a; intro a hK
        refine wpList_nil ?_
        show Code.wp Yba.prog _ _ _ _
        refine wp_cond_false (by rw [hK.rho (.tmp 31) _ rfl]; exact congrArg Value.bool (decide_eq_false h2)) ?_
        refine wp_skip ?_
        show Code.wp Yba.prog _ _ _ _
        refine wp_seq ?_
        refine wp_region_lit ?_
        refine kl hK 36 rfl (by decide) rfl (fun ρ hρ => r_mv _ rfl (hρ _ _ rfl)) ?_
        clear hK a; intro a hK
        refine kl hK 4 rfl (by decide) rfl (fun ρ hρ => r_as _ rfl (hρ _ _ rfl)) ?_
        clear hK a; intro a hK
        refine wpList_nil ?_
        show Code.wp Yba.prog _ _ _ _
        refine wp_ret ?_
        try simp only [Exit.inBlock, Exit.then]
        exact kret1 (s := 4) hK rfl rfl ⟨by rw [hz], hb⟩
    · have hz : D.cval q = D.seen q := if_neg (fun h => h1 (by omega))
      refine wp_region_lit ?_
      refine kl hK 18 rfl (by decide) rfl (fun ρ hρ => r_mv _ rfl (hρ _ _ rfl)) ?_
      clear hK a; intro a hK
      refine kl hK 19 rfl (by decide) rfl (fun ρ hρ => r_mv _ rfl (hρ _ _ rfl)) ?_
      clear hK a; intro a hK
      refine kl hK 20 rfl (by decide) rfl (fun ρ hρ => r_nil _ rfl (hρ _ _ rfl)) ?_
      clear hK a; intro a hK
      refine kl hK 21 rfl (by decide) rfl (fun ρ hρ => r_fo66_5 _ rfl (hρ _ _ rfl)) ?_
      clear hK a; intro a hK
      refine kl hK 22 rfl (by decide) rfl (fun ρ hρ => r_ld21 _ rfl (hρ _ _ rfl) c5) ?_
      clear hK a; intro a hK
      refine kl hK 23 rfl (by decide) rfl (fun ρ hρ => r_eql21 _ _ rfl (hρ _ _ rfl) (hρ _ _ rfl)) ?_
      clear hK a; intro a hK
      refine kl hK 24 rfl (by decide) rfl (fun ρ hρ => r_mv _ rfl (hρ _ _ rfl)) ?_
      clear hK a; intro a hK
      refine klu hK 25 6 24 rfl (by decide) rfl (by kernel_rfl) rfl (decide_eq_false h1) ?_
      clear hK a; intro a hK
      refine klu hK 26 6 24 rfl (by decide) rfl (by kernel_rfl) rfl (decide_eq_false h1) ?_
      clear hK a; intro a hK
      refine klu hK 27 6 24 rfl (by decide) rfl (by kernel_rfl) rfl (decide_eq_false h1) ?_
      clear hK a; intro a hK
      refine klu hK 28 6 24 rfl (by decide) rfl (by kernel_rfl) rfl (decide_eq_false h1) ?_
      clear hK a; intro a hK
      refine klu hK 29 6 24 rfl (by decide) rfl (by kernel_rfl) rfl (decide_eq_false h1) ?_
      clear hK a; intro a hK
      refine klu hK 30 6 24 rfl (by decide) rfl (by kernel_rfl) rfl (decide_eq_false h1) ?_
      clear hK a; intro a hK
      refine kl hK 31 rfl (by decide) rfl (fun ρ hρ => r_pickE _ _ _ rfl (decide_eq_false h1) (hρ _ _ rfl) (hρ _ _ rfl)) ?_
      clear hK a; intro a hK
      refine wpList_nil ?_
      show Code.wp Yba.prog _ _ _ _
      refine wp_cond_false (hK.rho (.tmp 31) _ rfl) ?_
      refine wp_skip ?_
      show Code.wp Yba.prog _ _ _ _
      refine wp_seq ?_
      refine wp_region_lit ?_
      refine kl hK 36 rfl (by decide) rfl (fun ρ hρ => r_mv _ rfl (hρ _ _ rfl)) ?_
      clear hK a; intro a hK
      refine kl hK 4 rfl (by decide) rfl (fun ρ hρ => r_as _ rfl (hρ _ _ rfl)) ?_
      clear hK a; intro a hK
      refine wpList_nil ?_
      show Code.wp Yba.prog _ _ _ _
      refine wp_ret ?_
      try simp only [Exit.inBlock, Exit.then]
      exact kret1 (s := 4) hK rfl rfl ⟨by rw [hz], hb⟩
  conv => arg 2; whnf
  refine wp_seq ?_
  refine wp_region_lit ?_
  refine kl hK 4 rfl (by decide) rfl (fun ρ hρ => r_as _ rfl (hρ _ _ rfl)) ?_
  clear hK a; intro a hK
  refine wpList_nil ?_
  show Code.wp Yba.prog _ _ _ _
  refine wp_seq ?_
  refine wp_region_lit ?_
  refine kl hK 8 rfl (by decide) rfl (fun ρ hρ => r_mv _ rfl (hρ _ _ rfl)) ?_
  clear hK a; intro a hK
  refine kl hK 9 rfl (by decide) rfl (fun ρ hρ => r_mv _ rfl (hρ _ _ rfl)) ?_
  clear hK a; intro a hK
  refine kc hK 10 rfl (by decide) rfl (fun ρ hρ => r_call10 _ _ rfl (hρ _ _ rfl) (hρ _ _ rfl) (hρ _ _ rfl)) (mlookup_any D hD mB q hq w0 hM) ?_
  rintro e w1 ⟨rfl, hb1⟩
  refine ⟨_, rfl, ?_⟩
  clear hK a; intro a hK
  refine kl hK 7 rfl (by decide) rfl (fun ρ hρ => r_mv _ rfl (hρ _ _ rfl)) ?_
  clear hK a; intro a hK
  refine kl hK 11 rfl (by decide) rfl (fun ρ hρ => r_ext _ 0 rfl (hρ _ _ rfl) rfl) ?_
  clear hK a; intro a hK
  refine kl hK 12 rfl (by decide) rfl (fun ρ hρ => r_ext _ 1 rfl (hρ _ _ rfl) rfl) ?_
  clear hK a; intro a hK
  refine kl hK 5 rfl (by decide) rfl (fun ρ hρ => r_as _ rfl (hρ _ _ rfl)) ?_
  clear hK a; intro a hK
  refine kl hK 6 rfl (by decide) rfl (fun ρ hρ => r_as _ rfl (hρ _ _ rfl)) ?_
  clear hK a; intro a hK
  refine wpList_nil ?_
  show Code.wp Yba.prog _ _ _ _
  refine wp_seq ?_
  refine wp_seq ?_
  refine wp_region_lit ?_
  refine kl hK 13 rfl (by decide) rfl (fun ρ hρ => r_mv _ rfl (hρ _ _ rfl)) ?_
  clear hK a; intro a hK
  refine kl hK 14 rfl (by decide) rfl (fun ρ hρ => r_not _ rfl (hρ _ _ rfl)) ?_
  clear hK a; intro a hK
  refine wpList_nil ?_
  show Code.wp Yba.prog _ _ _ _
  by_cases hl : (D.lkp q).2 = true
  · have hz : D.seen q = (D.lkp q).1 := if_pos hl
    refine wp_cond_false (by rw [hK.rho (.tmp 14) _ rfl]; exact congrArg Value.bool (by rw [hl]; rfl)) ?_
    refine wp_skip ?_
    show Code.wp Yba.prog _ _ _ _
    exact tail _ _ (hK.sub ⟨by rw [hz]; rfl, rfl, rfl, trivial⟩) hb1
  · have hz : D.seen q = D.hoff q := if_neg hl
    have hl2 : (D.lkp q).2 = false := by simpa using hl
    refine wp_cond_true (by rw [hK.rho (.tmp 14) _ rfl]; exact congrArg Value.bool (by rw [hl2]; rfl)) ?_
    refine wp_region_lit ?_
    refine kl hK 15 rfl (by decide) rfl (fun ρ hρ => r_mv _ rfl (hρ _ _ rfl)) ?_
    clear hK a; intro a hK
    refine kl hK 16 rfl (by decide) rfl (fun ρ hρ => r_mv _ rfl (hρ _ _ rfl)) ?_
    clear hK a; intro a hK
    refine kc hK 17 rfl (by decide) rfl (fun ρ hρ => r_call25 _ _ rfl (hρ _ _ rfl) (hρ _ _ rfl) (hρ _ _ rfl)) (mhoff_any D hD mB q hq w1 (hM.below hb1)) ?_
    rintro e w2 ⟨rfl, hb2⟩
    refine ⟨_, rfl, ?_⟩
    clear hK a; intro a hK
    refine kl hK 5 rfl (by decide) rfl (fun ρ hρ => r_as _ rfl (hρ _ _ rfl)) ?_
    clear hK a; intro a hK
    refine wpList_nil ?_
    show Code.wp Yba.prog _ _ _ _
    exact tail _ _ (hK.sub ⟨by rw [hz]; rfl, rfl, rfl, trivial⟩) (bel_trans hb1 hb2)
end Go.Proofs.Ybulkexuo
