import Derived.Test.YbulkexuoP9
namespace Go.Proofs.Ybulkexuo
open Go.RowKit
set_option linter.unusedSimpArgs false
set_option linter.unusedVariables false


set_option maxRecDepth 100000 in
set_option maxHeartbeats 1000000 in
theorem m75 (I : IN) (w0 : World) (F : Nat → Prop) (arB : Nat) (st : ST) (B : Nat) (e0 l0 : Value) (hB0 hc0 : Nat) (r0 : Value) (mB r0B fB qB : Nat) (p : Nat) (hp : p < I.N) (xB : Nat) (an : Bool) (a : Act) (w : World) (hK : Kn 706 ((60, .bool (I.D.lkp p).2) :: (59, .int .i32 (I.D.lkp p).1) :: (58, ptr xB) :: (57, .int .i32 (p : Nat)) :: (56, .bool an) :: (55, .slice (some ⟨qB, 0, none⟩) I.N I.N) :: (54, .slice (some ⟨fB, 0, none⟩) I.N I.N) :: (51, .slice (some ⟨r0B, 0, none⟩) I.N I.N) :: (50, ptr mB) :: (46, .int .i32 (I.D.asp : Nat)) :: (45, ptr arB) :: (44, r0) :: (43, .slice (some ⟨hB0, 0, none⟩) I.N hc0) :: (42, l0) :: (41, e0) :: (21, .int .i32 I.N) :: LA I) a) (hM : FM I w0 F arB st B e0 l0 hB0 hc0 r0 mB r0B w) (hx : w.rowIs xB 27 4 (I.D.hcell p)) (Q : Exit → Act → World → Prop) (hn : ∀ a n, Kn 706 ((61, .bool (low I.D I.R0 p)) :: (60, .bool (I.D.lkp p).2) :: (59, .int .i32 (I.D.lkp p).1) :: (58, ptr xB) :: (57, .int .i32 (p : Nat)) :: (56, .bool an) :: (55, .slice (some ⟨qB, 0, none⟩) I.N I.N) :: (54, .slice (some ⟨fB, 0, none⟩) I.N I.N) :: (51, .slice (some ⟨r0B, 0, none⟩) I.N I.N) :: (50, ptr mB) :: (46, .int .i32 (I.D.asp : Nat)) :: (45, ptr arB) :: (44, r0) :: (43, .slice (some ⟨hB0, 0, none⟩) I.N hc0) :: (42, l0) :: (41, e0) :: (21, .int .i32 I.N) :: LA I) a → Q .normal a (w.drewN n)) :
    Code.wp Yba.prog (nav [1, 1, 1, 1, 1, 1, 1, 1, 1, 1, 1, 1, 1, 1, 1, 1, 1, 1, 1, 1, 1, 1, 1, 1, 1, 1, 1, 1, 1, 1, 0, 1, 0, 0, 1, 0, 0, 1, 1, 1, 0] (Yba.f3.body.getD .skip)) Q a w := by
  have hN := I.N_le
  have hlen : I.R0.length ≤ I.N := (rsK_wf I I.lr).len
  have hixl := ix_le I.R0 p
  have x2 : w.cell? ⟨xB, 2, none⟩ = some (.int .i32 (I.D.hcnt p)) := hx.cell (i := 2) (by omega)
  have q0 := hM.ra.cell hp
  conv => arg 2; whnf
  by_cases hi : 0 < ix I.R0 p
  · obtain ⟨r, hr, hrp⟩ := ix_some I.R0 p (by omega)
    have hrl : ix I.R0 p - 1 < I.R0.length := (List.getElem?_eq_some_iff.1 hr).1
    have hrc : rc0 I.R0 p = r.cnt := by unfold rc0; rw [hr]; rfl
    have hT : decide (0 < ix I.R0 p) = true := decide_eq_true hi
    obtain ⟨g, cap, hv⟩ : ∃ g cap, r0 = .slice (some ⟨g, 0, none⟩) I.R0.length cap := by
      rcases own_slice hM.fx.c4.fr with ⟨_, h2⟩ | ⟨g, cap, h2, -, -⟩
      · omega
      · exact ⟨g, cap, h2⟩
    subst hv
    have c2 := (own_cell hM.fx.c4.fr (riseL_get I.R0 _ r hr).2.2.1).1
    by_cases hlt : r.cnt < I.D.hcnt p
    · have hlow : low I.D I.R0 p = true := by unfold low; rw [hrc, hT, decide_eq_true hlt]; rfl
      refine wp_region_quiet_lit (by kernel_rfl) (by kernel_rfl) ?_
      refine kq hK 359 rfl (by decide) rfl (fun ρ hρ w' hw' => r_mv _ rfl (hρ _ _ rfl)) ?_
      clear hK a; intro a hK
      refine kq hK 360 rfl (by decide) rfl (fun ρ hρ w' hw' => r_mv _ rfl (hρ _ _ rfl)) ?_
      clear hK a; intro a hK
      refine kq hK 361 rfl (by decide) rfl (fun ρ hρ w' hw' => r_ix33z _ _ rfl hp (hρ _ _ rfl) (hρ _ _ rfl)) ?_
      clear hK a; intro a hK
      refine kq hK 362 rfl (by decide) rfl (fun ρ hρ w' hw' => r_ld21 _ rfl (hρ _ _ rfl) (by obtain ⟨n, rfl⟩ := hw'; exact q0)) ?_
      clear hK a; intro a hK
      refine kq hK 363 rfl (by decide) rfl (fun ρ hρ w' hw' => r_gtr21 _ _ rfl (hρ _ _ rfl) (hρ _ _ rfl)) ?_
      clear hK a; intro a hK
      refine kq hK 364 rfl (by decide) rfl (fun ρ hρ w' hw' => r_mv _ rfl (hρ _ _ rfl)) ?_
      clear hK a; intro a hK
      refine kqg hK 365 5 364 rfl (by decide) rfl (by kernel_rfl) rfl (decide_eq_true (by omega)) (fun ρ hρ w' hw' => r_mv _ rfl (hρ _ _ rfl)) ?_
      clear hK a; intro a hK
      refine kqg hK 366 5 364 rfl (by decide) rfl (by kernel_rfl) rfl (decide_eq_true (by omega)) (fun ρ hρ w' hw' => r_mv _ rfl (hρ _ _ rfl)) ?_
      clear hK a; intro a hK
      refine kqg hK 367 5 364 rfl (by decide) rfl (by kernel_rfl) rfl (decide_eq_true (by omega)) (fun ρ hρ w' hw' => r_mv _ rfl (hρ _ _ rfl)) ?_
      clear hK a; intro a hK
      refine kqg hK 368 5 364 rfl (by decide) rfl (by kernel_rfl) rfl (decide_eq_true (by omega)) (fun ρ hρ w' hw' => r_ix33z _ _ rfl hp (hρ _ _ rfl) (hρ _ _ rfl)) ?_
      clear hK a; intro a hK
      refine kqg hK 369 5 364 rfl (by decide) rfl (by kernel_rfl) rfl (decide_eq_true (by omega)) (fun ρ hρ w' hw' => r_ld21 _ rfl (hρ _ _ rfl) (by obtain ⟨n, rfl⟩ := hw'; exact q0)) ?_
      clear hK a; intro a hK
      refine kqg hK 370 5 364 rfl (by decide) rfl (by kernel_rfl) rfl (decide_eq_true (by omega)) (fun ρ hρ w' hw' => r_dec21 _ rfl (by omega) (by omega) (hρ _ _ rfl) (hρ _ _ rfl)) ?_
      clear hK a; intro a hK
      refine kqg hK 371 5 364 rfl (by decide) rfl (by kernel_rfl) rfl (decide_eq_true (by omega)) (fun ρ hρ w' hw' => r_ix41z _ _ rfl hrl (hρ _ _ rfl) (hρ _ _ rfl)) ?_
      clear hK a; intro a hK
      refine kqg hK 372 5 364 rfl (by decide) rfl (by kernel_rfl) rfl (decide_eq_true (by omega)) (fun ρ hρ w' hw' => r_fa46_2 _ rfl (hρ _ _ rfl)) ?_
      clear hK a; intro a hK
      refine kqg hK 373 5 364 rfl (by decide) rfl (by kernel_rfl) rfl (decide_eq_true (by omega)) (fun ρ hρ w' hw' => r_ld21 _ rfl (hρ _ _ rfl) (by obtain ⟨n, rfl⟩ := hw'; exact c2)) ?_
      clear hK a; intro a hK
      refine kqg hK 374 5 364 rfl (by decide) rfl (by kernel_rfl) rfl (decide_eq_true (by omega)) (fun ρ hρ w' hw' => r_fo27_2 _ rfl (hρ _ _ rfl)) ?_
      clear hK a; intro a hK
      refine kqg hK 375 5 364 rfl (by decide) rfl (by kernel_rfl) rfl (decide_eq_true (by omega)) (fun ρ hρ w' hw' => r_ld21 _ rfl (hρ _ _ rfl) (by obtain ⟨n, rfl⟩ := hw'; exact x2)) ?_
      clear hK a; intro a hK
      refine kqg hK 376 5 364 rfl (by decide) rfl (by kernel_rfl) rfl (decide_eq_true (by omega)) (fun ρ hρ w' hw' => r_lss21 _ _ rfl (hρ _ _ rfl) (hρ _ _ rfl)) ?_
      clear hK a; intro a hK
      refine kq hK 377 rfl (by decide) rfl (fun ρ hρ w' hw' => r_pickT _ _ _ rfl (decide_eq_true (by omega)) (hρ _ _ rfl) (hρ _ _ rfl)) ?_
      clear hK a; intro a hK
      refine kq hK 378 rfl (by decide) rfl (fun ρ hρ w' hw' => r_mv _ rfl (hρ _ _ rfl)) ?_
      clear hK a; intro a hK
      refine kqu hK 379 19 378 rfl (by decide) rfl (by kernel_rfl) rfl (decide_eq_true hlt) ?_
      clear hK a; intro a hK
      refine kqu hK 380 19 378 rfl (by decide) rfl (by kernel_rfl) rfl (decide_eq_true hlt) ?_
      clear hK a; intro a hK
      refine kqn hK 381 21 380 rfl (by decide) rfl (by kernel_rfl) rfl ?_
      clear hK a; intro a hK
      refine kqn hK 382 21 380 rfl (by decide) rfl (by kernel_rfl) rfl ?_
      clear hK a; intro a hK
      refine kqn hK 383 21 380 rfl (by decide) rfl (by kernel_rfl) rfl ?_
      clear hK a; intro a hK
      refine kqn hK 384 21 380 rfl (by decide) rfl (by kernel_rfl) rfl ?_
      clear hK a; intro a hK
      refine kqu hK 385 19 378 rfl (by decide) rfl (by kernel_rfl) rfl (decide_eq_true hlt) ?_
      clear hK a; intro a hK
      refine kq hK 386 rfl (by decide) rfl (fun ρ hρ w' hw' => r_pickT _ _ _ rfl (decide_eq_true hlt) (hρ _ _ rfl) (hρ _ _ rfl)) ?_
      clear hK a; intro a hK
      refine kq hK 61 rfl (by decide) rfl (fun ρ hρ w' hw' => r_as _ rfl (hρ _ _ rfl)) ?_
      clear hK a; intro a hK
      refine wpQuiet_nil ?_
      rintro w' ⟨n, rfl⟩
      exact hn a n (hK.sub ⟨by rw [hlow]; rfl, rfl, rfl, rfl, rfl, rfl, rfl, rfl, rfl, rfl, rfl, rfl, rfl, rfl, rfl, rfl, rfl, rfl, rfl, rfl, rfl, rfl, rfl, rfl, rfl, rfl, rfl, trivial⟩)
    · cases hh : (I.D.lkp p).2
      · have hlow : low I.D I.R0 p = false := by unfold low; rw [hrc, hT, decide_eq_false hlt, hh]; rfl
        rw [hh] at hK hn
        refine wp_region_quiet_lit (by kernel_rfl) (by kernel_rfl) ?_
        refine kq hK 359 rfl (by decide) rfl (fun ρ hρ w' hw' => r_mv _ rfl (hρ _ _ rfl)) ?_
        clear hK a; intro a hK
        refine kq hK 360 rfl (by decide) rfl (fun ρ hρ w' hw' => r_mv _ rfl (hρ _ _ rfl)) ?_
        clear hK a; intro a hK
        refine kq hK 361 rfl (by decide) rfl (fun ρ hρ w' hw' => r_ix33z _ _ rfl hp (hρ _ _ rfl) (hρ _ _ rfl)) ?_
        clear hK a; intro a hK
        refine kq hK 362 rfl (by decide) rfl (fun ρ hρ w' hw' => r_ld21 _ rfl (hρ _ _ rfl) (by obtain ⟨n, rfl⟩ := hw'; exact q0)) ?_
        clear hK a; intro a hK
        refine kq hK 363 rfl (by decide) rfl (fun ρ hρ w' hw' => r_gtr21 _ _ rfl (hρ _ _ rfl) (hρ _ _ rfl)) ?_
        clear hK a; intro a hK
        refine kq hK 364 rfl (by decide) rfl (fun ρ hρ w' hw' => r_mv _ rfl (hρ _ _ rfl)) ?_
        clear hK a; intro a hK
        refine kqg hK 365 5 364 rfl (by decide) rfl (by kernel_rfl) rfl (decide_eq_true (by omega)) (fun ρ hρ w' hw' => r_mv _ rfl (hρ _ _ rfl)) ?_
        clear hK a; intro a hK
        refine kqg hK 366 5 364 rfl (by decide) rfl (by kernel_rfl) rfl (decide_eq_true (by omega)) (fun ρ hρ w' hw' => r_mv _ rfl (hρ _ _ rfl)) ?_
        clear hK a; intro a hK
        refine kqg hK 367 5 364 rfl (by decide) rfl (by kernel_rfl) rfl (decide_eq_true (by omega)) (fun ρ hρ w' hw' => r_mv _ rfl (hρ _ _ rfl)) ?_
        clear hK a; intro a hK
        refine kqg hK 368 5 364 rfl (by decide) rfl (by kernel_rfl) rfl (decide_eq_true (by omega)) (fun ρ hρ w' hw' => r_ix33z _ _ rfl hp (hρ _ _ rfl) (hρ _ _ rfl)) ?_
        clear hK a; intro a hK
        refine kqg hK 369 5 364 rfl (by decide) rfl (by kernel_rfl) rfl (decide_eq_true (by omega)) (fun ρ hρ w' hw' => r_ld21 _ rfl (hρ _ _ rfl) (by obtain ⟨n, rfl⟩ := hw'; exact q0)) ?_
        clear hK a; intro a hK
        refine kqg hK 370 5 364 rfl (by decide) rfl (by kernel_rfl) rfl (decide_eq_true (by omega)) (fun ρ hρ w' hw' => r_dec21 _ rfl (by omega) (by omega) (hρ _ _ rfl) (hρ _ _ rfl)) ?_
        clear hK a; intro a hK
        refine kqg hK 371 5 364 rfl (by decide) rfl (by kernel_rfl) rfl (decide_eq_true (by omega)) (fun ρ hρ w' hw' => r_ix41z _ _ rfl hrl (hρ _ _ rfl) (hρ _ _ rfl)) ?_
        clear hK a; intro a hK
        refine kqg hK 372 5 364 rfl (by decide) rfl (by kernel_rfl) rfl (decide_eq_true (by omega)) (fun ρ hρ w' hw' => r_fa46_2 _ rfl (hρ _ _ rfl)) ?_
        clear hK a; intro a hK
        refine kqg hK 373 5 364 rfl (by decide) rfl (by kernel_rfl) rfl (decide_eq_true (by omega)) (fun ρ hρ w' hw' => r_ld21 _ rfl (hρ _ _ rfl) (by obtain ⟨n, rfl⟩ := hw'; exact c2)) ?_
        clear hK a; intro a hK
        refine kqg hK 374 5 364 rfl (by decide) rfl (by kernel_rfl) rfl (decide_eq_true (by omega)) (fun ρ hρ w' hw' => r_fo27_2 _ rfl (hρ _ _ rfl)) ?_
        clear hK a; intro a hK
        refine kqg hK 375 5 364 rfl (by decide) rfl (by kernel_rfl) rfl (decide_eq_true (by omega)) (fun ρ hρ w' hw' => r_ld21 _ rfl (hρ _ _ rfl) (by obtain ⟨n, rfl⟩ := hw'; exact x2)) ?_
        clear hK a; intro a hK
        refine kqg hK 376 5 364 rfl (by decide) rfl (by kernel_rfl) rfl (decide_eq_true (by omega)) (fun ρ hρ w' hw' => r_lss21 _ _ rfl (hρ _ _ rfl) (hρ _ _ rfl)) ?_
        clear hK a; intro a hK
        refine kq hK 377 rfl (by decide) rfl (fun ρ hρ w' hw' => r_pickT _ _ _ rfl (decide_eq_true (by omega)) (hρ _ _ rfl) (hρ _ _ rfl)) ?_
        clear hK a; intro a hK
        refine kq hK 378 rfl (by decide) rfl (fun ρ hρ w' hw' => r_mv _ rfl (hρ _ _ rfl)) ?_
        clear hK a; intro a hK
        refine kqg hK 379 19 378 rfl (by decide) rfl (by kernel_rfl) rfl (decide_eq_false hlt) (fun ρ hρ w' hw' => r_mv _ rfl (hρ _ _ rfl)) ?_
        clear hK a; intro a hK
        refine kqg hK 380 19 378 rfl (by decide) rfl (by kernel_rfl) rfl (decide_eq_false hlt) (fun ρ hρ w' hw' => r_mv _ rfl (hρ _ _ rfl)) ?_
        clear hK a; intro a hK
        refine kqu hK 381 21 380 rfl (by decide) rfl (by kernel_rfl) rfl rfl ?_
        clear hK a; intro a hK
        refine kqu hK 382 21 380 rfl (by decide) rfl (by kernel_rfl) rfl rfl ?_
        clear hK a; intro a hK
        refine kqu hK 383 21 380 rfl (by decide) rfl (by kernel_rfl) rfl rfl ?_
        clear hK a; intro a hK
        refine kqu hK 384 21 380 rfl (by decide) rfl (by kernel_rfl) rfl rfl ?_
        clear hK a; intro a hK
        refine kqg hK 385 19 378 rfl (by decide) rfl (by kernel_rfl) rfl (decide_eq_false hlt) (fun ρ hρ w' hw' => r_pickE _ _ _ rfl rfl (hρ _ _ rfl) (hρ _ _ rfl)) ?_
        clear hK a; intro a hK
        refine kq hK 386 rfl (by decide) rfl (fun ρ hρ w' hw' => r_pickE _ _ _ rfl (decide_eq_false hlt) (hρ _ _ rfl) (hρ _ _ rfl)) ?_
        clear hK a; intro a hK
        refine kq hK 61 rfl (by decide) rfl (fun ρ hρ w' hw' => r_as _ rfl (hρ _ _ rfl)) ?_
        clear hK a; intro a hK
        refine wpQuiet_nil ?_
        rintro w' ⟨n, rfl⟩
        exact hn a n (hK.sub ⟨by rw [hlow]; rfl, rfl, rfl, rfl, rfl, rfl, rfl, rfl, rfl, rfl, rfl, rfl, rfl, rfl, rfl, rfl, rfl, rfl, rfl, rfl, rfl, rfl, rfl, rfl, rfl, rfl, rfl, trivial⟩)
      · have hlow : low I.D I.R0 p = decide ((I.D.lkp p).1 < I.D.hcnt p) := by unfold low; rw [hrc, hT, decide_eq_false hlt, hh, Bool.true_and, Bool.false_or, Bool.true_and]
        rw [hh] at hK hn
        refine wp_region_quiet_lit (by kernel_rfl) (by kernel_rfl) ?_
        refine kq hK 359 rfl (by decide) rfl (fun ρ hρ w' hw' => r_mv _ rfl (hρ _ _ rfl)) ?_
        clear hK a; intro a hK
        refine kq hK 360 rfl (by decide) rfl (fun ρ hρ w' hw' => r_mv _ rfl (hρ _ _ rfl)) ?_
        clear hK a; intro a hK
        refine kq hK 361 rfl (by decide) rfl (fun ρ hρ w' hw' => r_ix33z _ _ rfl hp (hρ _ _ rfl) (hρ _ _ rfl)) ?_
        clear hK a; intro a hK
        refine kq hK 362 rfl (by decide) rfl (fun ρ hρ w' hw' => r_ld21 _ rfl (hρ _ _ rfl) (by obtain ⟨n, rfl⟩ := hw'; exact q0)) ?_
        clear hK a; intro a hK
        refine kq hK 363 rfl (by decide) rfl (fun ρ hρ w' hw' => r_gtr21 _ _ rfl (hρ _ _ rfl) (hρ _ _ rfl)) ?_
        clear hK a; intro a hK
        refine kq hK 364 rfl (by decide) rfl (fun ρ hρ w' hw' => r_mv _ rfl (hρ _ _ rfl)) ?_
        clear hK a; intro a hK
        refine kqg hK 365 5 364 rfl (by decide) rfl (by kernel_rfl) rfl (decide_eq_true (by omega)) (fun ρ hρ w' hw' => r_mv _ rfl (hρ _ _ rfl)) ?_
        clear hK a; intro a hK
        refine kqg hK 366 5 364 rfl (by decide) rfl (by kernel_rfl) rfl (decide_eq_true (by omega)) (fun ρ hρ w' hw' => r_mv _ rfl (hρ _ _ rfl)) ?_
        clear hK a; intro a hK
        refine kqg hK 367 5 364 rfl (by decide) rfl (by kernel_rfl) rfl (decide_eq_true (by omega)) (fun ρ hρ w' hw' => r_mv _ rfl (hρ _ _ rfl)) ?_
        clear hK a; intro a hK
        refine kqg hK 368 5 364 rfl (by decide) rfl (by kernel_rfl) rfl (decide_eq_true (by omega)) (fun ρ hρ w' hw' => r_ix33z _ _ rfl hp (hρ _ _ rfl) (hρ _ _ rfl)) ?_
        clear hK a; intro a hK
        refine kqg hK 369 5 364 rfl (by decide) rfl (by kernel_rfl) rfl (decide_eq_true (by omega)) (fun ρ hρ w' hw' => r_ld21 _ rfl (hρ _ _ rfl) (by obtain ⟨n, rfl⟩ := hw'; exact q0)) ?_
        clear hK a; intro a hK
        refine kqg hK 370 5 364 rfl (by decide) rfl (by kernel_rfl) rfl (decide_eq_true (by omega)) (fun ρ hρ w' hw' => r_dec21 _ rfl (by omega) (by omega) (hρ _ _ rfl) (hρ _ _ rfl)) ?_
        clear hK a; intro a hK
        refine kqg hK 371 5 364 rfl (by decide) rfl (by kernel_rfl) rfl (decide_eq_true (by omega)) (fun ρ hρ w' hw' => r_ix41z _ _ rfl hrl (hρ _ _ rfl) (hρ _ _ rfl)) ?_
        clear hK a; intro a hK
        refine kqg hK 372 5 364 rfl (by decide) rfl (by kernel_rfl) rfl (decide_eq_true (by omega)) (fun ρ hρ w' hw' => r_fa46_2 _ rfl (hρ _ _ rfl)) ?_
        clear hK a; intro a hK
        refine kqg hK 373 5 364 rfl (by decide) rfl (by kernel_rfl) rfl (decide_eq_true (by omega)) (fun ρ hρ w' hw' => r_ld21 _ rfl (hρ _ _ rfl) (by obtain ⟨n, rfl⟩ := hw'; exact c2)) ?_
        clear hK a; intro a hK
        refine kqg hK 374 5 364 rfl (by decide) rfl (by kernel_rfl) rfl (decide_eq_true (by omega)) (fun ρ hρ w' hw' => r_fo27_2 _ rfl (hρ _ _ rfl)) ?_
        clear hK a; intro a hK
        refine kqg hK 375 5 364 rfl (by decide) rfl (by kernel_rfl) rfl (decide_eq_true (by omega)) (fun ρ hρ w' hw' => r_ld21 _ rfl (hρ _ _ rfl) (by obtain ⟨n, rfl⟩ := hw'; exact x2)) ?_
        clear hK a; intro a hK
        refine kqg hK 376 5 364 rfl (by decide) rfl (by kernel_rfl) rfl (decide_eq_true (by omega)) (fun ρ hρ w' hw' => r_lss21 _ _ rfl (hρ _ _ rfl) (hρ _ _ rfl)) ?_
        clear hK a; intro a hK
        refine kq hK 377 rfl (by decide) rfl (fun ρ hρ w' hw' => r_pickT _ _ _ rfl (decide_eq_true (by omega)) (hρ _ _ rfl) (hρ _ _ rfl)) ?_
        clear hK a; intro a hK
        refine kq hK 378 rfl (by decide) rfl (fun ρ hρ w' hw' => r_mv _ rfl (hρ _ _ rfl)) ?_
        clear hK a; intro a hK
        refine kqg hK 379 19 378 rfl (by decide) rfl (by kernel_rfl) rfl (decide_eq_false hlt) (fun ρ hρ w' hw' => r_mv _ rfl (hρ _ _ rfl)) ?_
        clear hK a; intro a hK
        refine kqg hK 380 19 378 rfl (by decide) rfl (by kernel_rfl) rfl (decide_eq_false hlt) (fun ρ hρ w' hw' => r_mv _ rfl (hρ _ _ rfl)) ?_
        clear hK a; intro a hK
        refine kqg hK 381 21 380 rfl (by decide) rfl (by kernel_rfl) rfl rfl (fun ρ hρ w' hw' => r_mv _ rfl (hρ _ _ rfl)) ?_
        clear hK a; intro a hK
        refine kqg hK 382 21 380 rfl (by decide) rfl (by kernel_rfl) rfl rfl (fun ρ hρ w' hw' => r_fo27_2 _ rfl (hρ _ _ rfl)) ?_
        clear hK a; intro a hK
        refine kqg hK 383 21 380 rfl (by decide) rfl (by kernel_rfl) rfl rfl (fun ρ hρ w' hw' => r_ld21 _ rfl (hρ _ _ rfl) (by obtain ⟨n, rfl⟩ := hw'; exact x2)) ?_
        clear hK a; intro a hK
        refine kqg hK 384 21 380 rfl (by decide) rfl (by kernel_rfl) rfl rfl (fun ρ hρ w' hw' => r_lss21 _ _ rfl (hρ _ _ rfl) (hρ _ _ rfl)) ?_
        clear hK a; intro a hK
        refine kqg hK 385 19 378 rfl (by decide) rfl (by kernel_rfl) rfl (decide_eq_false hlt) (fun ρ hρ w' hw' => r_pickT _ _ _ rfl rfl (hρ _ _ rfl) (hρ _ _ rfl)) ?_
        clear hK a; intro a hK
        refine kq hK 386 rfl (by decide) rfl (fun ρ hρ w' hw' => r_pickE _ _ _ rfl (decide_eq_false hlt) (hρ _ _ rfl) (hρ _ _ rfl)) ?_
        clear hK a; intro a hK
        refine kq hK 61 rfl (by decide) rfl (fun ρ hρ w' hw' => r_as _ rfl (hρ _ _ rfl)) ?_
        clear hK a; intro a hK
        refine wpQuiet_nil ?_
        rintro w' ⟨n, rfl⟩
        exact hn a n (hK.sub ⟨by rw [hlow]; rfl, rfl, rfl, rfl, rfl, rfl, rfl, rfl, rfl, rfl, rfl, rfl, rfl, rfl, rfl, rfl, rfl, rfl, rfl, rfl, rfl, rfl, rfl, rfl, rfl, rfl, rfl, trivial⟩)
  · have hT : decide (0 < ix I.R0 p) = false := decide_eq_false hi
    cases hh : (I.D.lkp p).2
    · have hlow : low I.D I.R0 p = false := by unfold low; rw [hT, hh]; rfl
      rw [hh] at hK hn
      refine wp_region_quiet_lit (by kernel_rfl) (by kernel_rfl) ?_
      refine kq hK 359 rfl (by decide) rfl (fun ρ hρ w' hw' => r_mv _ rfl (hρ _ _ rfl)) ?_
      clear hK a; intro a hK
      refine kq hK 360 rfl (by decide) rfl (fun ρ hρ w' hw' => r_mv _ rfl (hρ _ _ rfl)) ?_
      clear hK a; intro a hK
      refine kq hK 361 rfl (by decide) rfl (fun ρ hρ w' hw' => r_ix33z _ _ rfl hp (hρ _ _ rfl) (hρ _ _ rfl)) ?_
      clear hK a; intro a hK
      refine kq hK 362 rfl (by decide) rfl (fun ρ hρ w' hw' => r_ld21 _ rfl (hρ _ _ rfl) (by obtain ⟨n, rfl⟩ := hw'; exact q0)) ?_
      clear hK a; intro a hK
      refine kq hK 363 rfl (by decide) rfl (fun ρ hρ w' hw' => r_gtr21 _ _ rfl (hρ _ _ rfl) (hρ _ _ rfl)) ?_
      clear hK a; intro a hK
      refine kq hK 364 rfl (by decide) rfl (fun ρ hρ w' hw' => r_mv _ rfl (hρ _ _ rfl)) ?_
      clear hK a; intro a hK
      refine kqu hK 365 5 364 rfl (by decide) rfl (by kernel_rfl) rfl (decide_eq_false (by omega)) ?_
      clear hK a; intro a hK
      refine kqu hK 366 5 364 rfl (by decide) rfl (by kernel_rfl) rfl (decide_eq_false (by omega)) ?_
      clear hK a; intro a hK
      refine kqu hK 367 5 364 rfl (by decide) rfl (by kernel_rfl) rfl (decide_eq_false (by omega)) ?_
      clear hK a; intro a hK
      refine kqu hK 368 5 364 rfl (by decide) rfl (by kernel_rfl) rfl (decide_eq_false (by omega)) ?_
      clear hK a; intro a hK
      refine kqu hK 369 5 364 rfl (by decide) rfl (by kernel_rfl) rfl (decide_eq_false (by omega)) ?_
      clear hK a; intro a hK
      refine kqu hK 370 5 364 rfl (by decide) rfl (by kernel_rfl) rfl (decide_eq_false (by omega)) ?_
      clear hK a; intro a hK
      refine kqu hK 371 5 364 rfl (by decide) rfl (by kernel_rfl) rfl (decide_eq_false (by omega)) ?_
      clear hK a; intro a hK
      refine kqu hK 372 5 364 rfl (by decide) rfl (by kernel_rfl) rfl (decide_eq_false (by omega)) ?_
      clear hK a; intro a hK
      refine kqu hK 373 5 364 rfl (by decide) rfl (by kernel_rfl) rfl (decide_eq_false (by omega)) ?_
      clear hK a; intro a hK
      refine kqu hK 374 5 364 rfl (by decide) rfl (by kernel_rfl) rfl (decide_eq_false (by omega)) ?_
      clear hK a; intro a hK
      refine kqu hK 375 5 364 rfl (by decide) rfl (by kernel_rfl) rfl (decide_eq_false (by omega)) ?_
      clear hK a; intro a hK
      refine kqu hK 376 5 364 rfl (by decide) rfl (by kernel_rfl) rfl (decide_eq_false (by omega)) ?_
      clear hK a; intro a hK
      refine kq hK 377 rfl (by decide) rfl (fun ρ hρ w' hw' => r_pickE _ _ _ rfl (decide_eq_false (by omega)) (hρ _ _ rfl) (hρ _ _ rfl)) ?_
      clear hK a; intro a hK
      refine kq hK 378 rfl (by decide) rfl (fun ρ hρ w' hw' => r_mv _ rfl (hρ _ _ rfl)) ?_
      clear hK a; intro a hK
      refine kqg hK 379 19 378 rfl (by decide) rfl (by kernel_rfl) rfl rfl (fun ρ hρ w' hw' => r_mv _ rfl (hρ _ _ rfl)) ?_
      clear hK a; intro a hK
      refine kqg hK 380 19 378 rfl (by decide) rfl (by kernel_rfl) rfl rfl (fun ρ hρ w' hw' => r_mv _ rfl (hρ _ _ rfl)) ?_
      clear hK a; intro a hK
      refine kqu hK 381 21 380 rfl (by decide) rfl (by kernel_rfl) rfl rfl ?_
      clear hK a; intro a hK
      refine kqu hK 382 21 380 rfl (by decide) rfl (by kernel_rfl) rfl rfl ?_
      clear hK a; intro a hK
      refine kqu hK 383 21 380 rfl (by decide) rfl (by kernel_rfl) rfl rfl ?_
      clear hK a; intro a hK
      refine kqu hK 384 21 380 rfl (by decide) rfl (by kernel_rfl) rfl rfl ?_
      clear hK a; intro a hK
      refine kqg hK 385 19 378 rfl (by decide) rfl (by kernel_rfl) rfl rfl (fun ρ hρ w' hw' => r_pickE _ _ _ rfl rfl (hρ _ _ rfl) (hρ _ _ rfl)) ?_
      clear hK a; intro a hK
      refine kq hK 386 rfl (by decide) rfl (fun ρ hρ w' hw' => r_pickE _ _ _ rfl rfl (hρ _ _ rfl) (hρ _ _ rfl)) ?_
      clear hK a; intro a hK
      refine kq hK 61 rfl (by decide) rfl (fun ρ hρ w' hw' => r_as _ rfl (hρ _ _ rfl)) ?_
      clear hK a; intro a hK
      refine wpQuiet_nil ?_
      rintro w' ⟨n, rfl⟩
      exact hn a n (hK.sub ⟨by rw [hlow]; rfl, rfl, rfl, rfl, rfl, rfl, rfl, rfl, rfl, rfl, rfl, rfl, rfl, rfl, rfl, rfl, rfl, rfl, rfl, rfl, rfl, rfl, rfl, rfl, rfl, rfl, rfl, trivial⟩)
    · have hlow : low I.D I.R0 p = decide ((I.D.lkp p).1 < I.D.hcnt p) := by unfold low; rw [hT, hh, Bool.false_and, Bool.false_or, Bool.true_and]
      rw [hh] at hK hn
      refine wp_region_quiet_lit (by kernel_rfl) (by kernel_rfl) ?_
      refine kq hK 359 rfl (by decide) rfl (fun ρ hρ w' hw' => r_mv _ rfl (hρ _ _ rfl)) ?_
      clear hK a; intro a hK
      refine kq hK 360 rfl (by decide) rfl (fun ρ hρ w' hw' => r_mv _ rfl (hρ _ _ rfl)) ?_
      clear hK a; intro a hK
      refine kq hK 361 rfl (by decide) rfl (fun ρ hρ w' hw' => r_ix33z _ _ rfl hp (hρ _ _ rfl) (hρ _ _ rfl)) ?_
      clear hK a; intro a hK
      refine kq hK 362 rfl (by decide) rfl (fun ρ hρ w' hw' => r_ld21 _ rfl (hρ _ _ rfl) (by obtain ⟨n, rfl⟩ := hw'; exact q0)) ?_
      clear hK a; intro a hK
      refine kq hK 363 rfl (by decide) rfl (fun ρ hρ w' hw' => r_gtr21 _ _ rfl (hρ _ _ rfl) (hρ _ _ rfl)) ?_
      clear hK a; intro a hK
      refine kq hK 364 rfl (by decide) rfl (fun ρ hρ w' hw' => r_mv _ rfl (hρ _ _ rfl)) ?_
      clear hK a; intro a hK
      refine kqu hK 365 5 364 rfl (by decide) rfl (by kernel_rfl) rfl (decide_eq_false (by omega)) ?_
      clear hK a; intro a hK
      refine kqu hK 366 5 364 rfl (by decide) rfl (by kernel_rfl) rfl (decide_eq_false (by omega)) ?_
      clear hK a; intro a hK
      refine kqu hK 367 5 364 rfl (by decide) rfl (by kernel_rfl) rfl (decide_eq_false (by omega)) ?_
      clear hK a; intro a hK
      refine kqu hK 368 5 364 rfl (by decide) rfl (by kernel_rfl) rfl (decide_eq_false (by omega)) ?_
      clear hK a; intro a hK
      refine kqu hK 369 5 364 rfl (by decide) rfl (by kernel_rfl) rfl (decide_eq_false (by omega)) ?_
      clear hK a; intro a hK
      refine kqu hK 370 5 364 rfl (by decide) rfl (by kernel_rfl) rfl (decide_eq_false (by omega)) ?_
      clear hK a; intro a hK
      refine kqu hK 371 5 364 rfl (by decide) rfl (by kernel_rfl) rfl (decide_eq_false (by omega)) ?_
      clear hK a; intro a hK
      refine kqu hK 372 5 364 rfl (by decide) rfl (by kernel_rfl) rfl (decide_eq_false (by omega)) ?_
      clear hK a; intro a hK
      refine kqu hK 373 5 364 rfl (by decide) rfl (by kernel_rfl) rfl (decide_eq_false (by omega)) ?_
      clear hK a; intro a hK
      refine kqu hK 374 5 364 rfl (by decide) rfl (by kernel_rfl) rfl (decide_eq_false (by omega)) ?_
      clear hK a; intro a hK
      refine kqu hK 375 5 364 rfl (by decide) rfl (by kernel_rfl) rfl (decide_eq_false (by omega)) ?_
      clear hK a; intro a hK
      refine kqu hK 376 5 364 rfl (by decide) rfl (by kernel_rfl) rfl (decide_eq_false (by omega)) ?_
      clear hK a; intro a hK
      refine kq hK 377 rfl (by decide) rfl (fun ρ hρ w' hw' => r_pickE _ _ _ rfl (decide_eq_false (by omega)) (hρ _ _ rfl) (hρ _ _ rfl)) ?_
      clear hK a; intro a hK
      refine kq hK 378 rfl (by decide) rfl (fun ρ hρ w' hw' => r_mv _ rfl (hρ _ _ rfl)) ?_
      clear hK a; intro a hK
      refine kqg hK 379 19 378 rfl (by decide) rfl (by kernel_rfl) rfl rfl (fun ρ hρ w' hw' => r_mv _ rfl (hρ _ _ rfl)) ?_
      clear hK a; intro a hK
      refine kqg hK 380 19 378 rfl (by decide) rfl (by kernel_rfl) rfl rfl (fun ρ hρ w' hw' => r_mv _ rfl (hρ _ _ rfl)) ?_
      clear hK a; intro a hK
      refine kqg hK 381 21 380 rfl (by decide) rfl (by kernel_rfl) rfl rfl (fun ρ hρ w' hw' => r_mv _ rfl (hρ _ _ rfl)) ?_
      clear hK a; intro a hK
      refine kqg hK 382 21 380 rfl (by decide) rfl (by kernel_rfl) rfl rfl (fun ρ hρ w' hw' => r_fo27_2 _ rfl (hρ _ _ rfl)) ?_
      clear hK a; intro a hK
      refine kqg hK 383 21 380 rfl (by decide) rfl (by kernel_rfl) rfl rfl (fun ρ hρ w' hw' => r_ld21 _ rfl (hρ _ _ rfl) (by obtain ⟨n, rfl⟩ := hw'; exact x2)) ?_
      clear hK a; intro a hK
      refine kqg hK 384 21 380 rfl (by decide) rfl (by kernel_rfl) rfl rfl (fun ρ hρ w' hw' => r_lss21 _ _ rfl (hρ _ _ rfl) (hρ _ _ rfl)) ?_
      clear hK a; intro a hK
      refine kqg hK 385 19 378 rfl (by decide) rfl (by kernel_rfl) rfl rfl (fun ρ hρ w' hw' => r_pickT _ _ _ rfl rfl (hρ _ _ rfl) (hρ _ _ rfl)) ?_
      clear hK a; intro a hK
      refine kq hK 386 rfl (by decide) rfl (fun ρ hρ w' hw' => r_pickE _ _ _ rfl rfl (hρ _ _ rfl) (hρ _ _ rfl)) ?_
      clear hK a; intro a hK
      refine kq hK 61 rfl (by decide) rfl (fun ρ hρ w' hw' => r_as _ rfl (hρ _ _ rfl)) ?_
      clear hK a; intro a hK
      refine wpQuiet_nil ?_
      rintro w' ⟨n, rfl⟩
      exact hn a n (hK.sub ⟨by rw [hlow]; rfl, rfl, rfl, rfl, rfl, rfl, rfl, rfl, rfl, rfl, rfl, rfl, rfl, rfl, rfl, rfl, rfl, rfl, rfl, rfl, rfl, rfl, rfl, rfl, rfl, rfl, rfl, trivial⟩)

structure LQ (I : IN) (wP : World) (fB qB p : Nat) (w : World) : Prop where
  bel : Below wP.heap.size wP w
  f : w.rowIs fB 4 I.N (fun q => .bool (decide (q < p) && fired I.D I.R0 q))
  q : w.rowIs qB 4 I.N (fun x => .bool (qk I.D I.R0 p x))
theorem LQ.below {I : IN} {wP w w' : World} {fB qB p : Nat} (h : LQ I wP fB qB p w) (hb : Below w.heap.size w w') : LQ I wP fB qB p w' := ⟨bel_trans h.bel hb, h.f.of_block (hb.block _ h.f.lt), h.q.of_block (hb.block _ h.q.lt)⟩
theorem LQ.skip {I : IN} {wP w : World} {fB qB p : Nat} (h : LQ I wP fB qB p w) (ha : alow I.D I.R0 p = false) : LQ I wP fB qB (p + 1) w := by
  have hf : fired I.D I.R0 p = false := by unfold fired; rw [ha]; rfl
  refine ⟨h.bel, rowf h.f fun q _ => ?_, rowf h.q fun x _ => ?_⟩
  · by_cases e : q = p
    · subst e; rw [hf, Bool.and_false, Bool.and_false]
    · have : decide (q < p) = decide (q < p + 1) := by by_cases h1 : q < p <;> simp [h1] <;> omega
      rw [this]
  · show _ = Value.bool (if alow I.D I.R0 p = true ∧ I.D.hto p = x then true else qk I.D I.R0 p x)
    rw [if_neg (by rw [ha]; simp)]
theorem anyk_skip {D : PD} {R : List Rs} {p : Nat} (ha : alow D R p = false) : anyk D R (p + 1) = anyk D R p := by
  show (if alow D R p = true then true else anyk D R p) = _
  rw [if_neg (by rw [ha]; simp)]
theorem anyk_hit {D : PD} {R : List Rs} {p : Nat} (ha : alow D R p = true) : anyk D R (p + 1) = true := by
  show (if alow D R p = true then true else anyk D R p) = _
  rw [if_pos ha]


set_option maxRecDepth 100000 in
set_option maxHeartbeats 1000000 in
theorem lp12 (I : IN) (w0 : World) (F : Nat → Prop) (arB : Nat) (st : ST) (B : Nat) (e0 l0 : Value) (hB0 hc0 : Nat) (r0 : Value) (mB r0B fB qB : Nat) (hF : I.Fine) (hll : I.ll ≤ 4096) (wP : World) (hM : FM I w0 F arB st B e0 l0 hB0 hc0 r0 mB r0B wP) (hfB : wP.heap.size ≤ fB) (hqB : wP.heap.size ≤ qB) (hne : fB ≠ qB) (Q : Exit → Act → World → Prop) (K : Act → World → Prop) (hKK : ∀ a w, Kn 706 ((56, .bool (anyk I.D I.R0 I.N)) :: (55, .slice (some ⟨qB, 0, none⟩) I.N I.N) :: (54, .slice (some ⟨fB, 0, none⟩) I.N I.N) :: (51, .slice (some ⟨r0B, 0, none⟩) I.N I.N) :: (50, ptr mB) :: (46, .int .i32 (I.D.asp : Nat)) :: (45, ptr arB) :: (44, r0) :: (43, .slice (some ⟨hB0, 0, none⟩) I.N hc0) :: (42, l0) :: (41, e0) :: (21, .int .i32 I.N) :: LA I) a → LQ I wP fB qB I.N w → K a w) (a : Act) (w : World) (hK : Kn 706 ((57, .int .i32 (0 : Nat)) :: (56, .bool (anyk I.D I.R0 0)) :: (55, .slice (some ⟨qB, 0, none⟩) I.N I.N) :: (54, .slice (some ⟨fB, 0, none⟩) I.N I.N) :: (51, .slice (some ⟨r0B, 0, none⟩) I.N I.N) :: (50, ptr mB) :: (46, .int .i32 (I.D.asp : Nat)) :: (45, ptr arB) :: (44, r0) :: (43, .slice (some ⟨hB0, 0, none⟩) I.N hc0) :: (42, l0) :: (41, e0) :: (21, .int .i32 I.N) :: LA I) a) (hL : LQ I wP fB qB 0 w) :
    Code.wp Yba.prog (nav [1, 1, 1, 1, 1, 1, 1, 1, 1, 1, 1, 1, 1, 1, 1, 1, 1, 1, 1, 1, 1, 1, 1, 1, 1, 1, 1, 1, 1, 1, 0, 1] (Yba.f3.body.getD .skip)) (Exit.then K Q) a w := by
  have hN := I.N_le
  have hD := I.fine hF hll
  refine loop_n K (fun n a w => ∃ p, p ≤ I.N ∧ n = I.N - p ∧ Kn 706 ((57, .int .i32 (p : Nat)) :: (56, .bool (anyk I.D I.R0 p)) :: (55, .slice (some ⟨qB, 0, none⟩) I.N I.N) :: (54, .slice (some ⟨fB, 0, none⟩) I.N I.N) :: (51, .slice (some ⟨r0B, 0, none⟩) I.N I.N) :: (50, ptr mB) :: (46, .int .i32 (I.D.asp : Nat)) :: (45, ptr arB) :: (44, r0) :: (43, .slice (some ⟨hB0, 0, none⟩) I.N hc0) :: (42, l0) :: (41, e0) :: (21, .int .i32 I.N) :: LA I) a ∧ LQ I wP fB qB p w) ⟨0, Nat.zero_le _, rfl, hK, hL⟩ ?_
  clear hK hL a w
  rintro n a w R ⟨p, hp, hn, hK, hL⟩ hR
  refine wp_seq ?_
  refine wp_seq ?_
  refine wp_region_lit ?_
  refine kl hK 335 rfl (by decide) rfl (fun ρ hρ => r_mv _ rfl (hρ _ _ rfl)) ?_
  clear hK a; intro a hK
  refine kl hK 336 rfl (by decide) rfl (fun ρ hρ => r_mv _ rfl (hρ _ _ rfl)) ?_
  clear hK a; intro a hK
  refine kl hK 337 rfl (by decide) rfl (fun ρ hρ => r_lss21 _ _ rfl (hρ _ _ rfl) (hρ _ _ rfl)) ?_
  clear hK a; intro a hK
  refine wpList_nil ?_
  show Code.wp Yba.prog _ _ _ _
  by_cases hpl : p < I.N
  · have tl : ∀ a w, Kn 706 ((57, .int .i32 (p : Nat)) :: (56, .bool (anyk I.D I.R0 (p + 1))) :: (55, .slice (some ⟨qB, 0, none⟩) I.N I.N) :: (54, .slice (some ⟨fB, 0, none⟩) I.N I.N) :: (51, .slice (some ⟨r0B, 0, none⟩) I.N I.N) :: (50, ptr mB) :: (46, .int .i32 (I.D.asp : Nat)) :: (45, ptr arB) :: (44, r0) :: (43, .slice (some ⟨hB0, 0, none⟩) I.N hc0) :: (42, l0) :: (41, e0) :: (21, .int .i32 I.N) :: LA I) a → LQ I wP fB qB (p + 1) w → Code.wp Yba.prog (nav [1, 1, 1, 1, 1, 1, 1, 1, 1, 1, 1, 1, 1, 1, 1, 1, 1, 1, 1, 1, 1, 1, 1, 1, 1, 1, 1, 1, 1, 1, 0, 1, 0, 0, 1, 1] (Yba.f3.body.getD .skip)) (Exit.then R (Exit.inBlock 12 (Exit.then K Q))) a w := by
      clear hK hL a w
      intro a w hK hL
      conv => arg 2; whnf
      refine wp_region_lit ?_
      refine kl hK 338 rfl (by decide) rfl (fun ρ hρ => r_mv _ rfl (hρ _ _ rfl)) ?_
      clear hK a; intro a hK
      refine kl hK 339 rfl (by decide) rfl (fun ρ hρ => r_inc21 _ rfl (by omega) (hρ _ _ rfl) (hρ _ _ rfl)) ?_
      clear hK a; intro a hK
      refine kl hK 57 rfl (by decide) rfl (fun ρ hρ => r_as _ rfl (hρ _ _ rfl)) ?_
      clear hK a; intro a hK
      refine wpList_nil ?_
      exact hR (I.N - (p + 1)) _ _ (by omega) ⟨p + 1, hpl, rfl, hK.sub ⟨rfl, rfl, rfl, rfl, rfl, rfl, rfl, rfl, rfl, rfl, rfl, rfl, rfl, rfl, rfl, rfl, rfl, rfl, rfl, rfl, rfl, rfl, rfl, trivial⟩, hL⟩
    have hto := hD.hto p hpl
    obtain ⟨k0, k1, k2, k3⟩ := (hM.below hL.bel).hand p hpl
    refine wp_cond_true (by rw [hK.rho (.tmp 337) _ rfl]; exact congrArg Value.bool (decide_eq_true (by omega))) ?_
    refine wp_skip ?_
    show Code.wp Yba.prog _ _ _ _
    replace hK := hK.sub (M := (57, .int .i32 (p : Nat)) :: (56, .bool (anyk I.D I.R0 p)) :: (55, .slice (some ⟨qB, 0, none⟩) I.N I.N) :: (54, .slice (some ⟨fB, 0, none⟩) I.N I.N) :: (51, .slice (some ⟨r0B, 0, none⟩) I.N I.N) :: (50, ptr mB) :: (46, .int .i32 (I.D.asp : Nat)) :: (45, ptr arB) :: (44, r0) :: (43, .slice (some ⟨hB0, 0, none⟩) I.N hc0) :: (42, l0) :: (41, e0) :: (21, .int .i32 I.N) :: LA I) ⟨rfl, rfl, rfl, rfl, rfl, rfl, rfl, rfl, rfl, rfl, rfl, rfl, rfl, rfl, rfl, rfl, rfl, rfl, rfl, rfl, rfl, rfl, rfl, trivial⟩
    refine wp_seq ?_
    refine wp_block ?_
    refine wp_seq ?_
    refine wp_region_lit ?_
    refine kl hK 340 rfl (by decide) rfl (fun ρ hρ => r_mv _ rfl (hρ _ _ rfl)) ?_
    clear hK a; intro a hK
    refine kl hK 341 rfl (by decide) rfl (fun ρ hρ => r_mv _ rfl (hρ _ _ rfl)) ?_
    clear hK a; intro a hK
    refine kl hK 342 rfl (by decide) rfl (fun ρ hρ => r_ix25z _ _ rfl hpl (hρ _ _ rfl) (hρ _ _ rfl)) ?_
    clear hK a; intro a hK
    refine kl hK 343 rfl (by decide) rfl (fun ρ hρ => r_ld27 _ rfl (hρ _ _ rfl) k0 k1 k2 k3) ?_
    clear hK a; intro a hK
    refine kl hK 58 rfl (by decide) rfl (fun ρ hρ => r_al27 rfl) ?_
    clear hK a; intro a hK
    refine kst hK rfl rfl (fun ρ hρ => r_st27 (w := w) _ _ rfl (hρ _ _ rfl) (hρ _ _ rfl)) ?_
    refine wpList_nil ?_
    show Code.wp Yba.prog _ _ _ (w.alloc (.cells #[.int .i32 (I.D.hto p : Nat), .int .i32 (I.D.hpos p), .int .i32 (I.D.hcnt p), .int .i32 (I.D.hat p)] 27))
    have hx := hcell_new I.D p w
    have hxS := hL.bel.size
    have hxf : w.heap.size ≠ fB := fun e => by have := hL.f.lt; omega
    have hxq : w.heap.size ≠ qB := fun e => by have := hL.q.lt; omega
    have hL1 := hL.below (bel_alloc (Below.refl w.heap.size w) (.cells #[.int .i32 (I.D.hto p : Nat), .int .i32 (I.D.hpos p), .int .i32 (I.D.hcnt p), .int .i32 (I.D.hat p)] 27))
    clear hL k0 k1 k2 k3
    generalize (w.alloc (.cells #[.int .i32 (I.D.hto p : Nat), .int .i32 (I.D.hpos p), .int .i32 (I.D.hcnt p), .int .i32 (I.D.hat p)] 27)) = w1 at *
    generalize w.heap.size = xB at *
    clear w
    have x3 : w1.cell? ⟨xB, 3, none⟩ = some (.int .i32 (I.D.hat p)) := hx.cell (i := 3) (by omega)
    replace hK := hK.sub (M := (58, ptr xB) :: (57, .int .i32 (p : Nat)) :: (56, .bool (anyk I.D I.R0 p)) :: (55, .slice (some ⟨qB, 0, none⟩) I.N I.N) :: (54, .slice (some ⟨fB, 0, none⟩) I.N I.N) :: (51, .slice (some ⟨r0B, 0, none⟩) I.N I.N) :: (50, ptr mB) :: (46, .int .i32 (I.D.asp : Nat)) :: (45, ptr arB) :: (44, r0) :: (43, .slice (some ⟨hB0, 0, none⟩) I.N hc0) :: (42, l0) :: (41, e0) :: (21, .int .i32 I.N) :: LA I) ⟨rfl, rfl, rfl, rfl, rfl, rfl, rfl, rfl, rfl, rfl, rfl, rfl, rfl, rfl, rfl, rfl, rfl, rfl, rfl, rfl, rfl, rfl, rfl, rfl, trivial⟩
    refine wp_seq ?_
    refine wp_seq ?_
    by_cases h1 : I.D.hat p < 0
    · have hof : I.D.off p I.D.gAt := .inl h1
      have hal : alow I.D I.R0 p = false := by unfold alow; rw [decide_eq_true hof]; rfl
      refine wp_region_lit ?_
      refine kl hK 344 rfl (by decide) rfl (fun ρ hρ => r_fo27_3 _ rfl (hρ _ _ rfl)) ?_
      clear hK a; intro a hK
      refine kl hK 345 rfl (by decide) rfl (fun ρ hρ => r_ld21 _ rfl (hρ _ _ rfl) x3) ?_
      clear hK a; intro a hK
      refine kl hK 346 rfl (by decide) rfl (fun ρ hρ => r_lss21 _ _ rfl (hρ _ _ rfl) (hρ _ _ rfl)) ?_
      clear hK a; intro a hK
      refine kl hK 347 rfl (by decide) rfl (fun ρ hρ => r_mv _ rfl (hρ _ _ rfl)) ?_
      clear hK a; intro a hK
      refine klu hK 348 3 347 rfl (by decide) rfl (by kernel_rfl) rfl (decide_eq_true h1) ?_
      clear hK a; intro a hK
      refine klu hK 349 3 347 rfl (by decide) rfl (by kernel_rfl) rfl (decide_eq_true h1) ?_
      clear hK a; intro a hK
      refine klu hK 350 3 347 rfl (by decide) rfl (by kernel_rfl) rfl (decide_eq_true h1) ?_
      clear hK a; intro a hK
      refine klu hK 351 3 347 rfl (by decide) rfl (by kernel_rfl) rfl (decide_eq_true h1) ?_
      clear hK a; intro a hK
      refine kl hK 352 rfl (by decide) rfl (fun ρ hρ => r_pickT _ _ _ rfl (decide_eq_true h1) (hρ _ _ rfl) (hρ _ _ rfl)) ?_
      clear hK a; intro a hK
      refine wpList_nil ?_
      show Code.wp Yba.prog _ _ _ _
      refine wp_cond_true (hK.rho (.tmp 352) _ rfl) ?_
      refine wp_exit ?_
      show Code.wp Yba.prog _ _ _ _
      exact tl a w1 (hK.sub ⟨rfl, by rw [anyk_skip hal]; rfl, rfl, rfl, rfl, rfl, rfl, rfl, rfl, rfl, rfl, rfl, rfl, rfl, rfl, rfl, rfl, rfl, rfl, rfl, rfl, rfl, rfl, trivial⟩) (hL1.skip hal)
    · by_cases h2 : I.gAt < I.D.hat p
      · have hof : I.D.off p I.D.gAt := .inr h2
        have hal : alow I.D I.R0 p = false := by unfold alow; rw [decide_eq_true hof]; rfl
        refine wp_region_lit ?_
        refine kl hK 344 rfl (by decide) rfl (fun ρ hρ => r_fo27_3 _ rfl (hρ _ _ rfl)) ?_
        clear hK a; intro a hK
        refine kl hK 345 rfl (by decide) rfl (fun ρ hρ => r_ld21 _ rfl (hρ _ _ rfl) x3) ?_
        clear hK a; intro a hK
        refine kl hK 346 rfl (by decide) rfl (fun ρ hρ => r_lss21 _ _ rfl (hρ _ _ rfl) (hρ _ _ rfl)) ?_
        clear hK a; intro a hK
        refine kl hK 347 rfl (by decide) rfl (fun ρ hρ => r_mv _ rfl (hρ _ _ rfl)) ?_
        clear hK a; intro a hK
        refine klg hK 348 3 347 rfl (by decide) rfl (by kernel_rfl) rfl (decide_eq_false h1) (fun ρ hρ => r_fo27_3 _ rfl (hρ _ _ rfl)) ?_
        clear hK a; intro a hK
        refine klg hK 349 3 347 rfl (by decide) rfl (by kernel_rfl) rfl (decide_eq_false h1) (fun ρ hρ => r_ld21 _ rfl (hρ _ _ rfl) x3) ?_
        clear hK a; intro a hK
        refine klg hK 350 3 347 rfl (by decide) rfl (by kernel_rfl) rfl (decide_eq_false h1) (fun ρ hρ => r_mv _ rfl (hρ _ _ rfl)) ?_
        clear hK a; intro a hK
        refine klg hK 351 3 347 rfl (by decide) rfl (by kernel_rfl) rfl (decide_eq_false h1) (fun ρ hρ => r_gtr21 _ _ rfl (hρ _ _ rfl) (hρ _ _ rfl)) ?_
        clear hK a; intro a hK
        refine kl hK 352 rfl (by decide) rfl (fun ρ hρ => r_pickE _ _ _ rfl (decide_eq_false h1) (hρ _ _ rfl) (hρ _ _ rfl)) ?_
        clear hK a; intro a hK
        refine wpList_nil ?_
        show Code.wp Yba.prog _ _ _ _
        refine wp_cond_true (by rw [hK.rho (.tmp 352) _ rfl]; exact congrArg Value.bool (decide_eq_true h2)) ?_
        refine wp_exit ?_
        show Code.wp Yba.prog _ _ _ _
        exact tl a w1 (hK.sub ⟨rfl, by rw [anyk_skip hal]; rfl, rfl, rfl, rfl, rfl, rfl, rfl, rfl, rfl, rfl, rfl, rfl, rfl, rfl, rfl, rfl, rfl, rfl, rfl, rfl, rfl, rfl, trivial⟩) (hL1.skip hal)
      · have hof : ¬ I.D.off p I.D.gAt := fun h => h.elim h1 h2
        refine wp_region_lit ?_
        refine kl hK 344 rfl (by decide) rfl (fun ρ hρ => r_fo27_3 _ rfl (hρ _ _ rfl)) ?_
        clear hK a; intro a hK
        refine kl hK 345 rfl (by decide) rfl (fun ρ hρ => r_ld21 _ rfl (hρ _ _ rfl) x3) ?_
        clear hK a; intro a hK
        refine kl hK 346 rfl (by decide) rfl (fun ρ hρ => r_lss21 _ _ rfl (hρ _ _ rfl) (hρ _ _ rfl)) ?_
        clear hK a; intro a hK
        refine kl hK 347 rfl (by decide) rfl (fun ρ hρ => r_mv _ rfl (hρ _ _ rfl)) ?_
        clear hK a; intro a hK
        refine klg hK 348 3 347 rfl (by decide) rfl (by kernel_rfl) rfl (decide_eq_false h1) (fun ρ hρ => r_fo27_3 _ rfl (hρ _ _ rfl)) ?_
        clear hK a; intro a hK
        refine klg hK 349 3 347 rfl (by decide) rfl (by kernel_rfl) rfl (decide_eq_false h1) (fun ρ hρ => r_ld21 _ rfl (hρ _ _ rfl) x3) ?_
        clear hK a; intro a hK
        refine klg hK 350 3 347 rfl (by decide) rfl (by kernel_rfl) rfl (decide_eq_false h1) (fun ρ hρ => r_mv _ rfl (hρ _ _ rfl)) ?_
        clear hK a; intro a hK
        refine klg hK 351 3 347 rfl (by decide) rfl (by kernel_rfl) rfl (decide_eq_false h1) (fun ρ hρ => r_gtr21 _ _ rfl (hρ _ _ rfl) (hρ _ _ rfl)) ?_
        clear hK a; intro a hK
        refine kl hK 352 rfl (by decide) rfl (fun ρ hρ => r_pickE _ _ _ rfl (decide_eq_false h1) (hρ _ _ rfl) (hρ _ _ rfl)) ?_
        clear hK a; intro a hK
        refine wpList_nil ?_
        show Code.wp Yba.prog _ _ _ _
        refine wp_cond_false (by rw [hK.rho (.tmp 352) _ rfl]; exact congrArg Value.bool (decide_eq_false h2)) ?_
        refine wp_skip ?_
        show Code.wp Yba.prog _ _ _ _
        replace hK := hK.sub (M := (58, ptr xB) :: (57, .int .i32 (p : Nat)) :: (56, .bool (anyk I.D I.R0 p)) :: (55, .slice (some ⟨qB, 0, none⟩) I.N I.N) :: (54, .slice (some ⟨fB, 0, none⟩) I.N I.N) :: (51, .slice (some ⟨r0B, 0, none⟩) I.N I.N) :: (50, ptr mB) :: (46, .int .i32 (I.D.asp : Nat)) :: (45, ptr arB) :: (44, r0) :: (43, .slice (some ⟨hB0, 0, none⟩) I.N hc0) :: (42, l0) :: (41, e0) :: (21, .int .i32 I.N) :: LA I) ⟨rfl, rfl, rfl, rfl, rfl, rfl, rfl, rfl, rfl, rfl, rfl, rfl, rfl, rfl, rfl, rfl, rfl, rfl, rfl, rfl, rfl, rfl, rfl, rfl, trivial⟩
        refine wp_seq ?_
        refine wp_region_lit ?_
        refine kl hK 354 rfl (by decide) rfl (fun ρ hρ => r_mv _ rfl (hρ _ _ rfl)) ?_
        clear hK a; intro a hK
        refine kl hK 355 rfl (by decide) rfl (fun ρ hρ => r_mv _ rfl (hρ _ _ rfl)) ?_
        clear hK a; intro a hK
        refine kc hK 356 rfl (by decide) rfl (fun ρ hρ => r_call10 _ _ rfl (hρ _ _ rfl) (hρ _ _ rfl) (hρ _ _ rfl)) (mlookup_any I.D hD mB p hpl w1 (hM.below hL1.bel).m) ?_
        rintro e w2 ⟨rfl, hb2⟩
        refine ⟨_, rfl, ?_⟩
        clear hK a; intro a hK
        refine kl hK 353 rfl (by decide) rfl (fun ρ hρ => r_mv _ rfl (hρ _ _ rfl)) ?_
        clear hK a; intro a hK
        refine kl hK 357 rfl (by decide) rfl (fun ρ hρ => r_ext _ 0 rfl (hρ _ _ rfl) rfl) ?_
        clear hK a; intro a hK
        refine kl hK 358 rfl (by decide) rfl (fun ρ hρ => r_ext _ 1 rfl (hρ _ _ rfl) rfl) ?_
        clear hK a; intro a hK
        refine kl hK 59 rfl (by decide) rfl (fun ρ hρ => r_as _ rfl (hρ _ _ rfl)) ?_
        clear hK a; intro a hK
        refine kl hK 60 rfl (by decide) rfl (fun ρ hρ => r_as _ rfl (hρ _ _ rfl)) ?_
        clear hK a; intro a hK
        refine wpList_nil ?_
        show Code.wp Yba.prog _ _ _ _
        have hL2 := hL1.below hb2
        have hx2 := hx.of_block (hb2.block _ hx.lt)
        clear hL1 hx x3 hb2 w1
        refine wp_seq ?_
        refine m75 I w0 F arB st B e0 l0 hB0 hc0 r0 mB r0B fB qB p hpl xB _ a w2 (hK.sub ⟨rfl, rfl, rfl, rfl, rfl, rfl, rfl, rfl, rfl, rfl, rfl, rfl, rfl, rfl, rfl, rfl, rfl, rfl, rfl, rfl, rfl, rfl, rfl, rfl, rfl, rfl, trivial⟩) (hM.below hL2.bel) hx2 _ ?_
        clear hK a
        intro a n hK
        show Code.wp Yba.prog _ _ _ _
        have hL3 := hL2.below (bel_drewN (Below.refl w2.heap.size w2) n)
        have hx3 : (w2.drewN n).rowIs xB 27 4 (I.D.hcell p) := hx2
        clear hL2 hx2
        generalize w2.drewN n = w3 at *
        clear w2
        refine wp_seq ?_
        refine wp_seq ?_
        refine wp_region_lit ?_
        refine kl hK 387 rfl (by decide) rfl (fun ρ hρ => r_mv _ rfl (hρ _ _ rfl)) ?_
        clear hK a; intro a hK
        refine kl hK 388 rfl (by decide) rfl (fun ρ hρ => r_not _ rfl (hρ _ _ rfl)) ?_
        clear hK a; intro a hK
        refine wpList_nil ?_
        show Code.wp Yba.prog _ _ _ _
        cases hlw : low I.D I.R0 p
        · have hal : alow I.D I.R0 p = false := by unfold alow; rw [hlw, Bool.and_false]
          refine wp_cond_true (by rw [hK.rho (.tmp 388) _ rfl]; exact congrArg Value.bool (by rw [hlw]; rfl)) ?_
          refine wp_exit ?_
          show Code.wp Yba.prog _ _ _ _
          exact tl a w3 (hK.sub ⟨rfl, by rw [anyk_skip hal]; rfl, rfl, rfl, rfl, rfl, rfl, rfl, rfl, rfl, rfl, rfl, rfl, rfl, rfl, rfl, rfl, rfl, rfl, rfl, rfl, rfl, rfl, trivial⟩) (hL3.skip hal)
        · have hal : alow I.D I.R0 p = true := by unfold alow; rw [hlw, decide_eq_false hof]; rfl
          refine wp_cond_false (by rw [hK.rho (.tmp 388) _ rfl]; exact congrArg Value.bool (by rw [hlw]; rfl)) ?_
          refine wp_skip ?_
          show Code.wp Yba.prog _ _ _ _
          replace hK := hK.sub (M := (58, ptr xB) :: (57, .int .i32 (p : Nat)) :: (56, .bool (anyk I.D I.R0 p)) :: (55, .slice (some ⟨qB, 0, none⟩) I.N I.N) :: (54, .slice (some ⟨fB, 0, none⟩) I.N I.N) :: (51, .slice (some ⟨r0B, 0, none⟩) I.N I.N) :: (50, ptr mB) :: (46, .int .i32 (I.D.asp : Nat)) :: (45, ptr arB) :: (44, r0) :: (43, .slice (some ⟨hB0, 0, none⟩) I.N hc0) :: (42, l0) :: (41, e0) :: (21, .int .i32 I.N) :: LA I) ⟨rfl, rfl, rfl, rfl, rfl, rfl, rfl, rfl, rfl, rfl, rfl, rfl, rfl, rfl, rfl, rfl, rfl, rfl, rfl, rfl, rfl, rfl, rfl, rfl, trivial⟩
          have x0 : w3.cell? ⟨xB, 0, none⟩ = some (.int .i32 (I.D.hto p : Nat)) := hx3.cell (i := 0) (by omega)
          have x1 : w3.cell? ⟨xB, 1, none⟩ = some (.int .i32 (I.D.hpos p)) := hx3.cell (i := 1) (by omega)
          refine wp_seq ?_
          refine wp_region_lit ?_
          refine kl hK 389 rfl (by decide) rfl (fun ρ hρ => r_mv _ rfl (hρ _ _ rfl)) ?_
          clear hK a; intro a hK
          refine kl hK 390 rfl (by decide) rfl (fun ρ hρ => r_fo27_0 _ rfl (hρ _ _ rfl)) ?_
          clear hK a; intro a hK
          refine kl hK 391 rfl (by decide) rfl (fun ρ hρ => r_ld21 _ rfl (hρ _ _ rfl) x0) ?_
          clear hK a; intro a hK
          refine kl hK 392 rfl (by decide) rfl (fun ρ hρ => r_ix42z _ _ rfl hto (hρ _ _ rfl) (hρ _ _ rfl)) ?_
          clear hK a; intro a hK
          refine kst hK rfl rfl (fun ρ hρ => r_sto4 _ _ rfl (hρ _ _ rfl) (hρ _ _ rfl) (hL3.q.cell hto) (hL3.q.frozen _)) ?_
          refine wpList_nil ?_
          show Code.wp Yba.prog _ _ _ _
          have hbq : Below wP.heap.size wP (w3.setCell ⟨qB, I.D.hto p, none⟩ (.bool true)) := hL3.bel.setCell (p := ⟨qB, I.D.hto p, none⟩) hqB _
          have hfr : (w3.setCell ⟨qB, I.D.hto p, none⟩ (.bool true)).rowIs fB 4 I.N (fun q => .bool (decide (q < p) && fired I.D I.R0 q)) := hL3.f.of_block (Go.Deep.blk_setCell_other _ _ _ _ hne)
          have hqr : (w3.setCell ⟨qB, I.D.hto p, none⟩ (.bool true)).rowIs qB 4 I.N (fun x => .bool (qk I.D I.R0 (p + 1) x)) := rowf (hL3.q.set (I.D.hto p) (.bool true)) fun x _ => by
            show (if x = I.D.hto p then (.bool true : Value) else .bool (qk I.D I.R0 p x)) = .bool (if alow I.D I.R0 p = true ∧ I.D.hto p = x then true else qk I.D I.R0 p x)
            by_cases e : x = I.D.hto p
            · rw [if_pos e, if_pos ⟨hal, e.symm⟩]
            · rw [if_neg e, if_neg fun h => e h.2.symm]
          have hxo : ∀ o, (w3.setCell ⟨qB, I.D.hto p, none⟩ (.bool true)).cell? ⟨xB, o, none⟩ = w3.cell? ⟨xB, o, none⟩ := fun o => World.cell?_of_block (a := ⟨xB, o, none⟩) (Go.Deep.blk_setCell_other _ _ _ _ hxq)
          replace x0 := (hxo 0).trans x0
          replace x1 := (hxo 1).trans x1
          have hxl : xB < (w3.setCell ⟨qB, I.D.hto p, none⟩ (.bool true)).heap.size := by rw [setCell_size]; exact hx3.lt
          clear hxo hL3 hx3
          generalize (w3.setCell ⟨qB, I.D.hto p, none⟩ (.bool true)) = w4 at *
          clear w3
          have hM4 := hM.below hbq
          have hM4d : MV I.D w4.drew mB := hM4.m.below ((Below.refl w4.heap.size w4).drew)
          refine wp_seq ?_
          refine wp_region_lit ?_
          refine kl hK 56 rfl (by decide) rfl (fun ρ hρ => r_as _ rfl (hρ _ _ rfl)) ?_
          clear hK a; intro a hK
          refine wpList_nil ?_
          show Code.wp Yba.prog _ _ _ _
          refine wp_region_noPanic ?_
          refine wp_region_held_drew (S := fun w' => w'.cell? ⟨xB, 0, none⟩ = some (.int .i32 (I.D.hto p : Nat)) ∧ w'.cell? ⟨xB, 1, none⟩ = some (.int .i32 (I.D.hpos p))) (by kernel_rfl) ⟨x0, x1⟩ (fun hS0 => ?_)
          refine kt hK (i := 0) 393 rfl (by kernel_rfl) (by kernel_rfl) (by kernel_rfl) (fun _ _ _ h => h) hS0 rfl (by decide) rfl (fun ρ hρ w' hw' => r_mv _ rfl (hρ _ _ rfl)) ?_
          clear hK a; intro a hK
          refine kt hK (i := 1) 394 rfl (by kernel_rfl) (by kernel_rfl) (by kernel_rfl) (fun _ _ _ h => h) hS0 rfl (by decide) rfl (fun ρ hρ w' hw' => r_mv _ rfl (hρ _ _ rfl)) ?_
          clear hK a; intro a hK
          refine kt hK (i := 2) 395 rfl (by kernel_rfl) (by kernel_rfl) (by kernel_rfl) (fun _ _ _ h => h) hS0 rfl (by decide) rfl (fun ρ hρ w' hw' => r_mv _ rfl (hρ _ _ rfl)) ?_
          clear hK a; intro a hK
          refine kt hK (i := 3) 396 rfl (by kernel_rfl) (by kernel_rfl) (by kernel_rfl) (fun _ _ _ h => h) hS0 rfl (by decide) rfl (fun ρ hρ w' hw' => r_fo27_0 _ rfl (hρ _ _ rfl)) ?_
          clear hK a; intro a hK
          refine kt hK (i := 4) 397 rfl (by kernel_rfl) (by kernel_rfl) (by kernel_rfl) (fun _ _ _ h => h) hS0 rfl (by decide) rfl (fun ρ hρ w' hw' => r_ld21 _ rfl (hρ _ _ rfl) (hw'.1)) ?_
          clear hK a; intro a hK
          refine kt hK (i := 6) 399 rfl (by kernel_rfl) (by kernel_rfl) (by kernel_rfl) (fun _ _ _ h => h) hS0 rfl (by decide) rfl (fun ρ hρ w' hw' => r_fo27_1 _ rfl (hρ _ _ rfl)) ?_
          clear hK a; intro a hK
          refine kt hK (i := 7) 400 rfl (by kernel_rfl) (by kernel_rfl) (by kernel_rfl) (fun _ _ _ h => h) hS0 rfl (by decide) rfl (fun ρ hρ w' hw' => r_ld21 _ rfl (hρ _ _ rfl) (hw'.2)) ?_
          clear hK a; intro a hK
          refine kd_call hK (i := 5) 398 (by kernel_rfl) rfl rfl (by decide) rfl (fun ρ hρ => r_call11 _ _ rfl (hρ _ _ rfl) (hρ _ _ rfl) (hρ _ _ rfl)) (mcval_any I.D hD mB (I.D.hto p) hto w4.drew hM4d) ?_
          rintro e w5 ⟨rfl, hb5⟩
          have hS1 := show w5.cell? ⟨xB, 0, none⟩ = some (.int .i32 (I.D.hto p : Nat)) ∧ w5.cell? ⟨xB, 1, none⟩ = some (.int .i32 (I.D.hpos p)) from ⟨(hb5.cell (p := ⟨xB, 0, none⟩) hxl).trans x0, (hb5.cell (p := ⟨xB, 1, none⟩) hxl).trans x1⟩
          refine ⟨_, rfl, hS1, ?_⟩
          clear hS0
          have hS0 := hS1
          clear hK a; intro a hK
          refine kt hK (i := 8) 401 rfl (by kernel_rfl) (by kernel_rfl) (by kernel_rfl) (fun _ _ _ h => h) hS0 rfl (by decide) rfl (fun ρ hρ w' hw' => r_geq21 _ _ rfl (hρ _ _ rfl) (hρ _ _ rfl)) ?_
          clear hK a; intro a hK
          refine kt hK (i := 9) 402 rfl (by kernel_rfl) (by kernel_rfl) (by kernel_rfl) (fun _ _ _ h => h) hS0 rfl (by decide) rfl (fun ρ hρ w' hw' => r_ix42z _ _ rfl hpl (hρ _ _ rfl) (hρ _ _ rfl)) ?_
          clear hK a; intro a hK
          have hb5' : Below w4.heap.size w4 w5 := bel_trans ((Below.refl w4.heap.size w4).drew) hb5
          have hfr5 := hfr.of_block (hb5'.block _ hfr.lt)
          have hqr5 := hqr.of_block (hb5'.block _ hqr.lt)
          have hxf5 : ∀ o v, (w5.setCell ⟨fB, p, none⟩ v).cell? ⟨xB, o, none⟩ = w5.cell? ⟨xB, o, none⟩ := fun o v => World.cell?_of_block (a := ⟨xB, o, none⟩) (Go.Deep.blk_setCell_other _ _ _ _ hxf)
          refine kd_store hK (i := 10) (by kernel_rfl) rfl rfl rfl (fun ρ hρ => r_sto4 _ _ rfl (hρ _ _ rfl) (hρ _ _ rfl) (hfr5.cell hpl) (hfr5.frozen _)) ⟨(hxf5 0 _).trans hS0.1, (hxf5 1 _).trans hS0.2⟩ ?_
          refine wpAnyH_done (by kernel_rfl) ?_ _
          show Code.wp Yba.prog _ _ _ _
          have hL6 : LQ I wP fB qB (p + 1) (w5.setCell ⟨fB, p, none⟩ (.bool (decide (I.D.hpos p ≤ I.D.cval (I.D.hto p))))) := by
            refine ⟨(bel_trans hbq hb5').setCell (p := ⟨fB, p, none⟩) hfB _, rowf (hfr5.set p (.bool (decide (I.D.hpos p ≤ I.D.cval (I.D.hto p))))) fun q _ => ?_, hqr5.of_block (Go.Deep.blk_setCell_other _ _ _ _ (Ne.symm hne))⟩
            show (if q = p then (.bool (decide (I.D.hpos p ≤ I.D.cval (I.D.hto p))) : Value) else .bool (decide (q < p) && fired I.D I.R0 q)) = .bool (decide (q < p + 1) && fired I.D I.R0 q)
            by_cases e : q = p
            · subst e
              rw [if_pos rfl, decide_eq_true (Nat.lt_succ_self q), Bool.true_and]
              unfold fired
              rw [hal, Bool.true_and]
            · rw [if_neg e]
              have : decide (q < p) = decide (q < p + 1) := by by_cases h1 : q < p <;> simp [h1] <;> omega
              rw [this]
          exact tl a _ (hK.sub ⟨rfl, by rw [anyk_hit hal]; rfl, rfl, rfl, rfl, rfl, rfl, rfl, rfl, rfl, rfl, rfl, rfl, rfl, rfl, rfl, rfl, rfl, rfl, rfl, rfl, rfl, rfl, trivial⟩) hL6
  · have hpe : p = I.N := by omega
    refine wp_cond_false (by rw [hK.rho (.tmp 337) _ rfl]; exact congrArg Value.bool (decide_eq_false (by omega))) ?_
    refine wp_exit ?_
    subst hpe
    exact hKK _ _ (hK.sub ⟨rfl, rfl, rfl, rfl, rfl, rfl, rfl, rfl, rfl, rfl, rfl, rfl, rfl, rfl, rfl, rfl, rfl, rfl, rfl, rfl, rfl, rfl, trivial⟩) hL
end Go.Proofs.Ybulkexuo
