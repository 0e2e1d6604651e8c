import Derived.Test.YbulkexuoS3
namespace Go.Proofs.Ybulkexuo
open Go.RowKit
set_option linter.unusedSimpArgs false
set_option linter.unusedVariables false


set_option maxRecDepth 100000 in
set_option maxHeartbeats 1000000 in
theorem raise_any (D : PD) (hD : D.Fine) (F : Nat → Prop) (B0 arB : Nat) (st : ST) (R : List Rs) (Qo : Option (Nat → Bool)) (r : Rs) (hr : r.p < D.N) (hby : r.by_ = true) (w0 : World) (hA : ARB D F B0 arB st R Qo w0) :
    Calls Yba.prog 19 #[ptr arB, Value.agg #[.int .i32 r.p, .int .i32 r.old, .int .i32 r.cnt, .bool r.by_]] w0 fun e w' => e = .returned (.tuple #[]) ∧ ∃ st', ARB D F B0 arB st' (rz R r) Qo w' ∧ Step arB st w0 st' w' := by
  refine calls_of_wp (c := Yba.f19.body.getD .skip) Yba.func19 (by kernel_rfl) ?_
  rw [Yba.ntmps19]
  have hK := kn_call [ptr arB, Value.agg #[.int .i32 r.p, .int .i32 r.old, .int .i32 r.cnt, .bool r.by_]] 97 (L := [(1, Value.agg #[.int .i32 r.p, .int .i32 r.old, .int .i32 r.cnt, .bool r.by_]), (0, ptr arB)]) ⟨rfl, rfl, trivial⟩ (by simp)
  generalize ({ tmps := [ptr arB, Value.agg #[.int .i32 r.p, .int .i32 r.old, .int .i32 r.cnt, .bool r.by_]].toArray ++ Array.replicate (97 - [ptr arB, Value.agg #[.int .i32 r.p, .int .i32 r.old, .int .i32 r.cnt, .bool r.by_]].toArray.size) undef, defers := [] } : Act) = a at *
  have hN := hD.N20
  have hx := rise_new w0 r
  have hT1 : Touch (fun _ => False) w0 (w0.alloc (.cells #[.int .i32 r.p, .int .i32 r.old, .int .i32 r.cnt, .bool r.by_] 46)) := (Touch.refl _ w0).alloc _
  have hA1 := hA.below hT1.to_below
  have hxT : ¬ TSet arB st w0.heap.size := fun h => Nat.lt_irrefl _ (hA.ar.tlt _ h)
  have hSt1 : Step arB st w0 st (w0.alloc (.cells #[.int .i32 r.p, .int .i32 r.old, .int .i32 r.cnt, .bool r.by_] 46)) := Step.of_touch0 hT1
  conv => arg 2; whnf
  refine wp_seq ?_
  refine wp_region_lit ?_
  refine kl hK 3 rfl (by decide) rfl (fun ρ hρ => r_box46 _ rfl (hρ _ _ rfl)) ?_
  clear hK a; intro a hK
  refine wpList_nil ?_
  show Code.wp Yba.prog _ _ _ _
  generalize hw1 : w0.alloc (.cells #[.int .i32 r.p, .int .i32 r.old, .int .i32 r.cnt, .bool r.by_] 46) = w1 at *
  clear hw1
  obtain ⟨k13, k14, -, -, -, kz⟩ := hA1.ar.cells
  obtain ⟨hb, hcap, k6, -, -, -⟩ := hA1.ar.ck.hand
  refine wp_seq ?_
  refine wp_seq ?_
  by_cases hR : R = []
  · have hnil := hA.nil.2 hR
    rw [hnil] at k14
    refine wp_region_lit ?_
    refine kl hK 6 rfl (by decide) rfl (fun ρ hρ => r_mv _ rfl (hρ _ _ rfl)) ?_
    clear hK a; intro a hK
    refine kl hK 7 rfl (by decide) rfl (fun ρ hρ => r_nil _ rfl (hρ _ _ rfl)) ?_
    clear hK a; intro a hK
    refine kl hK 8 rfl (by decide) rfl (fun ρ hρ => r_fo56_10 _ rfl (hρ _ _ rfl)) ?_
    clear hK a; intro a hK
    refine kl hK 9 rfl (by decide) rfl (fun ρ hρ => r_ld33 _ rfl (hρ _ _ rfl) k14) ?_
    clear hK a; intro a hK
    refine kl hK 10 rfl (by decide) rfl (fun ρ hρ => r_isnil 33 21 Yba.underlying33 _ rfl (hρ _ _ rfl) (hρ _ _ rfl)) ?_
    clear hK a; intro a hK
    refine wpList_nil ?_
    show Code.wp Yba.prog _ _ _ _
    refine wp_cond_true (hK.rho (.tmp 10) _ rfl) ?_
    have hb14 : (w1.alloc (.cells (madeCells #[.int .i32 0] D.N) 21)).heap[arB]? = w1.heap[arB]? := Below.heap_alloc _ _ _ hA1.ar.arow
    have k14' := (World.cell?_of_block (a := ⟨arB, 14, none⟩) hb14).trans k14
    have kz' := (World.frozen?_of_block (a := ⟨arB, 14, none⟩) hb14).trans (kz 14)
    refine wp_region_lit ?_
    refine kl hK 11 rfl (by decide) rfl (fun ρ hρ => r_mv _ rfl (hρ _ _ rfl)) ?_
    clear hK a; intro a hK
    refine kl hK 12 rfl (by decide) rfl (fun ρ hρ => r_mv _ rfl (hρ _ _ rfl)) ?_
    clear hK a; intro a hK
    refine kl hK 13 rfl (by decide) rfl (fun ρ hρ => r_nil _ rfl (hρ _ _ rfl)) ?_
    clear hK a; intro a hK
    refine kl hK 14 rfl (by decide) rfl (fun ρ hρ => r_fo56_2 _ rfl (hρ _ _ rfl)) ?_
    clear hK a; intro a hK
    refine kl hK 15 rfl (by decide) rfl (fun ρ hρ => r_ld25 _ rfl (hρ _ _ rfl) k6) ?_
    clear hK a; intro a hK
    refine kl hK 16 rfl (by decide) rfl (fun ρ hρ => r_len25 _ rfl (hρ _ _ rfl)) ?_
    clear hK a; intro a hK
    refine kl hK 17 rfl (by decide) rfl (fun ρ hρ => r_make1 33 21 (.int .i32 0) 4 rfl (by decide) Yba.underlying33 info21' _ _ rfl (by omega) (hρ _ _ rfl) (hρ _ _ rfl)) ?_
    clear hK a; intro a hK
    refine kl hK 18 rfl (by decide) rfl (fun ρ hρ => r_nil _ rfl (hρ _ _ rfl)) ?_
    clear hK a; intro a hK
    refine kl hK 19 rfl (by decide) rfl (fun ρ hρ => r_fo56_10 _ rfl (hρ _ _ rfl)) ?_
    clear hK a; intro a hK
    refine kst hK rfl rfl (fun ρ hρ => r_sto33 _ _ rfl (hρ _ _ rfl) (hρ _ _ rfl) k14' kz') ?_
    refine wpList_nil ?_
    show Code.wp Yba.prog _ _ _ _
    obtain ⟨hA2, hSt2⟩ := hA1.ar.setRa hnil hA1.flt
    have hx2 := hSt2.keep hx.lt hxT
    exact x19 D hD F B0 arB st R Qo r hr hby w0 hA.wf hA.flt _ _ hA2 w1.heap.size rfl (hSt1.trans hSt2) w0.heap.size (hx.of_block hx2.1) hx2.2 a (hK.sub ⟨rfl, rfl, trivial⟩)
  · obtain ⟨rb, hra⟩ : ∃ rb, st.raV = .slice (some ⟨rb, 0, none⟩) D.N D.N := by
      rcases hA.ar.ra with ⟨h1, _⟩ | ⟨b, h1, _⟩
      · exact absurd (hA.nil.1 h1) hR
      · exact ⟨b, h1⟩
    rw [hra] at k14
    refine wp_region_lit ?_
    refine kl hK 6 rfl (by decide) rfl (fun ρ hρ => r_mv _ rfl (hρ _ _ rfl)) ?_
    clear hK a; intro a hK
    refine kl hK 7 rfl (by decide) rfl (fun ρ hρ => r_nil _ rfl (hρ _ _ rfl)) ?_
    clear hK a; intro a hK
    refine kl hK 8 rfl (by decide) rfl (fun ρ hρ => r_fo56_10 _ rfl (hρ _ _ rfl)) ?_
    clear hK a; intro a hK
    refine kl hK 9 rfl (by decide) rfl (fun ρ hρ => r_ld33 _ rfl (hρ _ _ rfl) k14) ?_
    clear hK a; intro a hK
    refine kl hK 10 rfl (by decide) rfl (fun ρ hρ => r_notnil 33 21 Yba.underlying33 _ rfl (hρ _ _ rfl) (hρ _ _ rfl)) ?_
    clear hK a; intro a hK
    refine wpList_nil ?_
    show Code.wp Yba.prog _ _ _ _
    refine wp_cond_false (hK.rho (.tmp 10) _ rfl) ?_
    refine wp_skip ?_
    show Code.wp Yba.prog _ _ _ _
    exact x19 D hD F B0 arB st R Qo r hr hby w0 hA.wf hA.flt st w1 hA1.ar rb hra hSt1 w0.heap.size hx hxT a (hK.sub ⟨rfl, rfl, trivial⟩)

/-- the joining -/
def PD.gC (D : PD) (arB : Nat) : Array Value := #[ptr arB, ptr arB, .int .i32 0, .int .i32 D.ll, .int .i32 D.asp, .int .i32 D.asc, .int .i32 D.aAt, .int .i32 D.gsp, .int .i32 D.gsc, .slice none 0 0, .int .i32 D.gAt]
def GV (D : PD) (arB : Nat) (w : World) (gB : Nat) : Prop := w.rowIs gB 62 11 (fun j => ((D.gC arB)[j]?).getD undef)
/-- where a step leaves it -/
theorem GV.step {D : PD} {arB : Nat} {w w' : World} {gB : Nat} (h : GV D arB w gB) (e : w'.heap[gB]? = w.heap[gB]?) : GV D arB w' gB := World.rowIs.of_block h e


theorem F_not {D : PD} {F : Nat → Prop} {B0 arB : Nat} {st : ST} {R : List Rs} {Qo : Option (Nat → Bool)} {w : World} (h : ARB D F B0 arB st R Qo w) {b : Nat} (hF : F b) : ¬ TSet arB st b := fun hT => h.ar.notF b hT hF
set_option maxRecDepth 100000 in
set_option maxHeartbeats 1000000 in
theorem x18 (D : PD) (hD : D.Fine) (F : Nat → Prop) (B0 arB gB : Nat) (hgF : F gB) (st : ST) (R : List Rs) (Qo : Option (Nat → Bool)) (q : Nat) (hq : q < D.N) (pos : Int) (w0 : World) (st1 : ST) (Q : Nat → Bool) (hQQ : ∀ p, Q p = (Qo.getD fun _ => false) p) (w : World) (hA : ARB D F B0 arB st1 R (some Q) w) (hG : GV D arB w gB) (hStep : Step arB st w0 st1 w) (a : Act) (hK : Kn 111 ((7, ptr arB) :: (2, .int .i32 pos) :: (1, .int .i32 q) :: (0, ptr gB) :: []) a) :
    Code.wp Yba.prog (nav [1, 1, 1] (Yba.f18.body.getD .skip)) (bodyPost Yba.prog Yba.f18 fun e w' => e = .returned (.bool (decide (pos ≤ D.cval q))) ∧ ∃ st', ARB D F B0 arB st' R (some (askQ Qo q)) w' ∧ Step arB st w0 st' w') a w := by
  have hN := hD.N20
  obtain ⟨cB, iB, hcV, hiV, r1, r2⟩ : ∃ cB iB, st1.cV = .slice (some ⟨cB, 0, none⟩) D.N D.N ∧ st1.iV = .slice (some ⟨iB, 0, none⟩) D.N D.N ∧ w.rowIs cB 21 D.N (fun q => .int .i32 (if Q q = true then D.cval q else 0)) ∧ w.rowIs iB 21 D.N (fun q => .int .i32 (if Q q = true then 1 else 0)) := by
    rcases hA.ar.cc with ⟨h1, _⟩ | ⟨Q', b, c, h1, h2, h3, h4, h5, h6⟩
    · cases h1
    · cases h1; exact ⟨b, c, h2, h3, h5, h6⟩
  obtain ⟨-, -, k16, k17, k18, kz⟩ := hA.ar.cells
  rw [hcV] at k17
  rw [hiV] at k18
  have ki := r2.cell (i := q) hq
  have fin : ∀ (st2 : ST) (Q2 : Nat → Bool) (w2 : World) (a : Act), ARB D F B0 arB st2 R (some Q2) w2 → Step arB st w0 st2 w2 → (∀ p, Q2 p = askQ Qo q p) → Kn 111 ((7, ptr arB) :: (2, .int .i32 pos) :: (1, .int .i32 q) :: (0, ptr gB) :: []) a → Code.wp Yba.prog (nav [1, 1, 1, 1] (Yba.f18.body.getD .skip)) (bodyPost Yba.prog Yba.f18 fun e w' => e = .returned (.bool (decide (pos ≤ D.cval q))) ∧ ∃ st', ARB D F B0 arB st' R (some (askQ Qo q)) w' ∧ Step arB st w0 st' w') a w2 := by
    clear hK hA hG hStep a k16 k17 k18 kz ki r1 r2 hcV hiV
    intro st2 Q2 w2 a hA hStep hQ2 hK
    obtain ⟨cB, hcV, r1⟩ : ∃ cB, st2.cV = .slice (some ⟨cB, 0, none⟩) D.N D.N ∧ w2.rowIs cB 21 D.N (fun q => .int .i32 (if Q2 q = true then D.cval q else 0)) := by
      rcases hA.ar.cc with ⟨h1, _⟩ | ⟨Q', b, c, h1, h2, h3, h4, h5, h6⟩
      · cases h1
      · cases h1; exact ⟨b, h2, h5⟩
    obtain ⟨-, -, -, k17, -, -⟩ := hA.ar.cells
    rw [hcV] at k17
    have kc := r1.cell (i := q) hq
    have hq2 : Q2 q = true := by rw [hQ2]; unfold askQ; rw [if_pos rfl]
    rw [if_pos hq2] at kc
    obtain rfl : Q2 = askQ Qo q := funext hQ2
    conv => arg 2; whnf
    refine wp_seq ?_
    refine wp_region_lit ?_
    refine kl hK 102 rfl (by decide) rfl (fun ρ hρ => r_mv _ rfl (hρ _ _ rfl)) ?_
    clear hK a; intro a hK
    refine kl hK 103 rfl (by decide) rfl (fun ρ hρ => r_nil _ rfl (hρ _ _ rfl)) ?_
    clear hK a; intro a hK
    refine kl hK 104 rfl (by decide) rfl (fun ρ hρ => r_fo56_13 _ rfl (hρ _ _ rfl)) ?_
    clear hK a; intro a hK
    refine kl hK 105 rfl (by decide) rfl (fun ρ hρ => r_ld33 _ rfl (hρ _ _ rfl) k17) ?_
    clear hK a; intro a hK
    refine kl hK 106 rfl (by decide) rfl (fun ρ hρ => r_mv _ rfl (hρ _ _ rfl)) ?_
    clear hK a; intro a hK
    refine kl hK 107 rfl (by decide) rfl (fun ρ hρ => r_ix33z _ _ rfl hq (hρ _ _ rfl) (hρ _ _ rfl)) ?_
    clear hK a; intro a hK
    refine kl hK 108 rfl (by decide) rfl (fun ρ hρ => r_ld21 _ rfl (hρ _ _ rfl) kc) ?_
    clear hK a; intro a hK
    refine kl hK 109 rfl (by decide) rfl (fun ρ hρ => r_mv _ rfl (hρ _ _ rfl)) ?_
    clear hK a; intro a hK
    refine kl hK 110 rfl (by decide) rfl (fun ρ hρ => r_geq21 _ _ rfl (hρ _ _ rfl) (hρ _ _ rfl)) ?_
    clear hK a; intro a hK
    refine kl hK 6 rfl (by decide) rfl (fun ρ hρ => r_as _ rfl (hρ _ _ rfl)) ?_
    clear hK a; intro a hK
    refine wpList_nil ?_
    show Code.wp Yba.prog _ _ _ _
    refine wp_ret ?_
    exact kret1 (s := 6) hK rfl rfl ⟨rfl, st2, hA, hStep⟩
  conv => arg 2; whnf
  refine wp_seq ?_
  refine wp_seq ?_
  refine wp_region_quiet_lit (by kernel_rfl) (by kernel_rfl) ?_
  refine kq hK 38 rfl (by decide) rfl (fun ρ hρ w' hw' => r_mv _ rfl (hρ _ _ rfl)) ?_
  clear hK a; intro a hK
  refine kq hK 39 rfl (by decide) rfl (fun ρ hρ w' hw' => r_nil _ rfl (hρ _ _ rfl)) ?_
  clear hK a; intro a hK
  refine kq hK 40 rfl (by decide) rfl (fun ρ hρ w' hw' => r_fo56_14 _ rfl (hρ _ _ rfl)) ?_
  clear hK a; intro a hK
  refine kq hK 41 rfl (by decide) rfl (fun ρ hρ w' hw' => r_ld33 _ rfl (hρ _ _ rfl) (by obtain ⟨n, rfl⟩ := hw'; exact k18)) ?_
  clear hK a; intro a hK
  refine kq hK 42 rfl (by decide) rfl (fun ρ hρ w' hw' => r_mv _ rfl (hρ _ _ rfl)) ?_
  clear hK a; intro a hK
  refine kq hK 43 rfl (by decide) rfl (fun ρ hρ w' hw' => r_ix33z _ _ rfl hq (hρ _ _ rfl) (hρ _ _ rfl)) ?_
  clear hK a; intro a hK
  refine kq hK 44 rfl (by decide) rfl (fun ρ hρ w' hw' => r_ld21 _ rfl (hρ _ _ rfl) (by obtain ⟨n, rfl⟩ := hw'; exact ki)) ?_
  clear hK a; intro a hK
  refine kq hK 45 rfl (by decide) rfl (fun ρ hρ w' hw' => r_mv _ rfl (hρ _ _ rfl)) ?_
  clear hK a; intro a hK
  refine kq hK 46 rfl (by decide) rfl (fun ρ hρ w' hw' => r_nil _ rfl (hρ _ _ rfl)) ?_
  clear hK a; intro a hK
  refine kq hK 47 rfl (by decide) rfl (fun ρ hρ w' hw' => r_fo56_12 _ rfl (hρ _ _ rfl)) ?_
  clear hK a; intro a hK
  refine kq hK 48 rfl (by decide) rfl (fun ρ hρ w' hw' => r_ld21 _ rfl (hρ _ _ rfl) (by obtain ⟨n, rfl⟩ := hw'; exact k16)) ?_
  clear hK a; intro a hK
  refine kq hK 49 rfl (by decide) rfl (fun ρ hρ w' hw' => r_neq21 _ _ rfl (hρ _ _ rfl) (hρ _ _ rfl)) ?_
  clear hK a; intro a hK
  refine wpQuiet_nil ?_
  rintro w' ⟨n, rfl⟩
  show Code.wp Yba.prog _ _ _ _
  replace hA := hA.below (bel_drewN (Below.refl _ w) n)
  replace hStep : Step arB st w0 st1 (w.drewN n) := hStep.trans (Step.of_below (bel_drewN (Below.refl _ w) n))
  replace hG : GV D arB (w.drewN n) gB := hG
  replace r1 : (w.drewN n).rowIs cB 21 D.N (fun q => .int .i32 (if Q q = true then D.cval q else 0)) := r1
  replace r2 : (w.drewN n).rowIs iB 21 D.N (fun q => .int .i32 (if Q q = true then 1 else 0)) := r2
  clear k16 k17 k18 kz ki
  generalize w.drewN n = w1 at *
  clear w
  by_cases hQ : Q q = true
  · rw [if_pos hQ] at hK
    refine wp_cond_false (by rw [hK.rho (.tmp 49) _ rfl]; exact congrArg Value.bool (decide_eq_false (by omega))) ?_
    refine wp_skip ?_
    show Code.wp Yba.prog _ _ _ _
    refine fin st1 Q w1 a hA hStep (fun p => ?_) (hK.sub ⟨rfl, rfl, rfl, rfl, trivial⟩)
    unfold askQ
    by_cases e : p = q
    · subst e; rw [if_pos rfl]; exact hQ
    · rw [if_neg e]; exact hQQ p
  · rw [if_neg hQ] at hK
    refine wp_cond_true (by rw [hK.rho (.tmp 49) _ rfl]; exact congrArg Value.bool (decide_eq_true (by omega))) ?_
    replace hK := hK.sub (M := (7, ptr arB) :: (2, .int .i32 pos) :: (1, .int .i32 q) :: (0, ptr gB) :: []) ⟨rfl, rfl, rfl, rfl, trivial⟩
    have hGc : ∀ (w : World), GV D arB w gB → ∀ j, j < 11 → w.cell? ⟨gB, j, none⟩ = some (((D.gC arB)[j]?).getD undef) := fun w h j hj => World.rowIs.cell h hj
    have g1 : w1.cell? ⟨gB, 1, none⟩ = some (ptr arB) := hGc w1 hG 1 (by omega)
    have g2 : w1.cell? ⟨gB, 2, none⟩ = some (.int .i32 0) := hGc w1 hG 2 (by omega)
    have g3 : w1.cell? ⟨gB, 3, none⟩ = some (.int .i32 D.ll) := hGc w1 hG 3 (by omega)
    have g4 : w1.cell? ⟨gB, 4, none⟩ = some (.int .i32 D.asp) := hGc w1 hG 4 (by omega)
    have g5 : w1.cell? ⟨gB, 5, none⟩ = some (.int .i32 D.asc) := hGc w1 hG 5 (by omega)
    have g6 : w1.cell? ⟨gB, 6, none⟩ = some (.int .i32 D.aAt) := hGc w1 hG 6 (by omega)
    refine wp_seq ?_
    refine wp_region_lit ?_
    refine kl hK 50 rfl (by decide) rfl (fun ρ hρ => r_mv _ rfl (hρ _ _ rfl)) ?_
    clear hK a; intro a hK
    refine kl hK 51 rfl (by decide) rfl (fun ρ hρ => r_nil _ rfl (hρ _ _ rfl)) ?_
    clear hK a; intro a hK
    refine kl hK 52 rfl (by decide) rfl (fun ρ hρ => r_fo62_1 _ rfl (hρ _ _ rfl)) ?_
    clear hK a; intro a hK
    refine kl hK 53 rfl (by decide) rfl (fun ρ hρ => r_ld58 _ rfl (hρ _ _ rfl) g1 g2 g3 g4 g5 g6) ?_
    clear hK a; intro a hK
    refine kl hK 54 rfl (by decide) rfl (fun ρ hρ => r_mv _ rfl (hρ _ _ rfl)) ?_
    clear hK a; intro a hK
    refine kc hK 55 rfl (by decide) rfl (fun ρ hρ => r_call29 _ _ rfl (hρ _ _ rfl) (hρ _ _ rfl) (hρ _ _ rfl)) (cseen_any D hD arB q hq w1 hA.ar.ck.ck) ?_
    rintro e w2 ⟨rfl, hb2⟩
    refine ⟨_, rfl, ?_⟩
    clear hK a; intro a hK
    refine kl hK 8 rfl (by decide) rfl (fun ρ hρ => r_as _ rfl (hρ _ _ rfl)) ?_
    clear hK a; intro a hK
    refine wpList_nil ?_
    show Code.wp Yba.prog _ _ _ _
    have hGlt : gB < w1.heap.size := hA.flt gB hgF
    replace hG := hG.step (hb2.block gB hGlt)
    replace r1 := r1.of_block (hb2.block _ r1.lt)
    replace r2 := r2.of_block (hb2.block _ r2.lt)
    replace hStep := hStep.trans (Step.of_below hb2)
    replace hA := hA.below hb2
    clear g1 g2 g3 g4 g5 g6 hGlt
    clear hb2 w1
    have g7 : w2.cell? ⟨gB, 7, none⟩ = some (.int .i32 D.gsp) := hGc w2 hG 7 (by omega)
    have g8 : w2.cell? ⟨gB, 8, none⟩ = some (.int .i32 D.gsc) := hGc w2 hG 8 (by omega)
    have g9 : w2.cell? ⟨gB, 9, none⟩ = some (.slice none 0 0) := hGc w2 hG 9 (by omega)
    have tl : ∀ a, Kn 111 ((8, .int .i32 (D.cval q)) :: (7, ptr arB) :: (2, .int .i32 pos) :: (1, .int .i32 q) :: (0, ptr gB) :: []) a → Code.wp Yba.prog (nav [1, 1, 1, 0, 1, 0, 1, 1] (Yba.f18.body.getD .skip)) (Exit.then (fun a w => Code.wp Yba.prog (nav [1, 1, 1, 1] (Yba.f18.body.getD .skip)) (bodyPost Yba.prog Yba.f18 fun e w' => e = .returned (.bool (decide (pos ≤ D.cval q))) ∧ ∃ st', ARB D F B0 arB st' R (some (askQ Qo q)) w' ∧ Step arB st w0 st' w') a w) (bodyPost Yba.prog Yba.f18 fun e w' => e = .returned (.bool (decide (pos ≤ D.cval q))) ∧ ∃ st', ARB D F B0 arB st' R (some (askQ Qo q)) w' ∧ Step arB st w0 st' w')) a w2 := by
      clear hK a
      intro a hK
      conv => arg 2; whnf
      refine wp_seq ?_
      refine wp_seq ?_
      refine wp_region_lit ?_
      refine kl hK 70 rfl (by decide) rfl (fun ρ hρ => r_mv _ rfl (hρ _ _ rfl)) ?_
      clear hK a; intro a hK
      refine kl hK 71 rfl (by decide) rfl (fun ρ hρ => r_nil _ rfl (hρ _ _ rfl)) ?_
      clear hK a; intro a hK
      refine kl hK 72 rfl (by decide) rfl (fun ρ hρ => r_fo62_3 _ rfl (hρ _ _ rfl)) ?_
      clear hK a; intro a hK
      refine kl hK 73 rfl (by decide) rfl (fun ρ hρ => r_ld60 _ rfl (hρ _ _ rfl) g9) ?_
      clear hK a; intro a hK
      refine kl hK 74 rfl (by decide) rfl (fun ρ hρ => r_len60 _ rfl (hρ _ _ rfl)) ?_
      clear hK a; intro a hK
      refine kl hK 75 rfl (by decide) rfl (fun ρ hρ => r_mv _ rfl (hρ _ _ rfl)) ?_
      clear hK a; intro a hK
      refine wpList_nil ?_
      show Code.wp Yba.prog _ _ _ _
      refine loop_n _ (fun n a w => w = w2 ∧ Kn 111 ((75, .int .i64 0) :: (74, .int .i64 ((0 : Nat) : Int)) :: (8, .int .i32 (D.cval q)) :: (7, ptr arB) :: (2, .int .i32 pos) :: (1, .int .i32 q) :: (0, ptr gB) :: []) a) (n := 0) ⟨rfl, hK.sub ⟨rfl, rfl, rfl, rfl, rfl, rfl, rfl, trivial⟩⟩ ?_
      clear hK a
      rintro n a w R ⟨rfl, hK⟩ hR
      refine wp_seq ?_
      refine wp_region_lit ?_
      refine kl hK 76 rfl (by decide) rfl (fun ρ hρ => r_lss3 _ _ rfl (hρ _ _ rfl) (hρ _ _ rfl)) ?_
      clear hK a; intro a hK
      refine wpList_nil ?_
      show Code.wp Yba.prog _ _ _ _
      refine wp_seq ?_
      refine wp_cond_false (by rw [hK.rho (.tmp 76) _ rfl]; exact congrArg Value.bool (decide_eq_false (by omega))) ?_
      refine wp_exit ?_
      show Code.wp Yba.prog _ _ _ _
      obtain ⟨-, -, k16, k17, k18, -⟩ := hA.ar.cells
      rw [hcV] at k17
      rw [hiV] at k18
      obtain ⟨cc, hcc, -⟩ := hA.ar.obj
      have hac : arB ≠ cB := row_ne hcc r1 (by decide)
      have hai : arB ≠ iB := row_ne hcc r2 (by decide)
      have hci : cB ≠ iB := by
        rcases hA.ar.cc with ⟨h1, _⟩ | ⟨Q', b, c, h1, h2, h3, h4, _⟩
        · cases h1
        · rw [hcV] at h2
          rw [hiV] at h3
          cases h2; cases h3; exact h4
      have m1 := r1.cell (i := q) hq
      have m2 := r2.cell (i := q) hq
      have z1 := r1.frozen q
      have z2 := r2.frozen q
      have hb1 : (w.drew.setCell ⟨cB, q, none⟩ (.int .i32 (D.cval q))).heap[arB]? = w.heap[arB]? := Go.Deep.blk_setCell_other _ _ _ _ hac
      have hb2 : ((w.drew.setCell ⟨cB, q, none⟩ (.int .i32 (D.cval q))).setCell ⟨iB, q, none⟩ (.int .i32 1)).heap[arB]? = w.heap[arB]? := (Go.Deep.blk_setCell_other _ _ _ _ hai).trans hb1
      have hb3 : (w.drew.setCell ⟨cB, q, none⟩ (.int .i32 (D.cval q))).heap[iB]? = w.heap[iB]? := Go.Deep.blk_setCell_other _ _ _ _ (Ne.symm hci)
      have m2' := (World.cell?_of_block (a := ⟨iB, q, none⟩) hb3).trans m2
      have z2' := (World.frozen?_of_block (a := ⟨iB, q, none⟩) hb3).trans z2
      have hS1 : (fun w' : World => w'.cell? ⟨arB, 17, none⟩ = some (.slice (some ⟨cB, 0, none⟩) D.N D.N) ∧ w'.cell? ⟨arB, 18, none⟩ = some (.slice (some ⟨iB, 0, none⟩) D.N D.N) ∧ w'.cell? ⟨arB, 16, none⟩ = some (.int .i32 1)) (w.drew.setCell ⟨cB, q, none⟩ (.int .i32 (D.cval q))) := ⟨(World.cell?_of_block (a := ⟨arB, 17, none⟩) hb1).trans k17, (World.cell?_of_block (a := ⟨arB, 18, none⟩) hb1).trans k18, (World.cell?_of_block (a := ⟨arB, 16, none⟩) hb1).trans k16⟩
      have hS2 : (fun w' : World => w'.cell? ⟨arB, 17, none⟩ = some (.slice (some ⟨cB, 0, none⟩) D.N D.N) ∧ w'.cell? ⟨arB, 18, none⟩ = some (.slice (some ⟨iB, 0, none⟩) D.N D.N) ∧ w'.cell? ⟨arB, 16, none⟩ = some (.int .i32 1)) ((w.drew.setCell ⟨cB, q, none⟩ (.int .i32 (D.cval q))).setCell ⟨iB, q, none⟩ (.int .i32 1)) := ⟨(World.cell?_of_block (a := ⟨arB, 17, none⟩) hb2).trans k17, (World.cell?_of_block (a := ⟨arB, 18, none⟩) hb2).trans k18, (World.cell?_of_block (a := ⟨arB, 16, none⟩) hb2).trans k16⟩
      refine wp_region_noPanic ?_
      refine wp_region_held_drew (S := fun w' => w'.cell? ⟨arB, 17, none⟩ = some (.slice (some ⟨cB, 0, none⟩) D.N D.N) ∧ w'.cell? ⟨arB, 18, none⟩ = some (.slice (some ⟨iB, 0, none⟩) D.N D.N) ∧ w'.cell? ⟨arB, 16, none⟩ = some (.int .i32 1)) (by kernel_rfl) ⟨k17, k18, k16⟩ (fun hS0 => ?_)
      refine kt hK (i := 0) 85 rfl (by kernel_rfl) (by kernel_rfl) (by kernel_rfl) (fun _ _ _ h => h) hS0 rfl (by decide) rfl (fun ρ hρ w' hw' => r_mv _ rfl (hρ _ _ rfl)) ?_
      clear hK a; intro a hK
      refine kt hK (i := 1) 86 rfl (by kernel_rfl) (by kernel_rfl) (by kernel_rfl) (fun _ _ _ h => h) hS0 rfl (by decide) rfl (fun ρ hρ w' hw' => r_nil _ rfl (hρ _ _ rfl)) ?_
      clear hK a; intro a hK
      refine kt hK (i := 2) 87 rfl (by kernel_rfl) (by kernel_rfl) (by kernel_rfl) (fun _ _ _ h => h) hS0 rfl (by decide) rfl (fun ρ hρ w' hw' => r_fo56_13 _ rfl (hρ _ _ rfl)) ?_
      clear hK a; intro a hK
      refine kt hK (i := 3) 88 rfl (by kernel_rfl) (by kernel_rfl) (by kernel_rfl) (fun _ _ _ h => h) hS0 rfl (by decide) rfl (fun ρ hρ w' hw' => r_ld33 _ rfl (hρ _ _ rfl) hw'.1) ?_
      clear hK a; intro a hK
      refine kt hK (i := 4) 89 rfl (by kernel_rfl) (by kernel_rfl) (by kernel_rfl) (fun _ _ _ h => h) hS0 rfl (by decide) rfl (fun ρ hρ w' hw' => r_mv _ rfl (hρ _ _ rfl)) ?_
      clear hK a; intro a hK
      refine kt hK (i := 5) 90 rfl (by kernel_rfl) (by kernel_rfl) (by kernel_rfl) (fun _ _ _ h => h) hS0 rfl (by decide) rfl (fun ρ hρ w' hw' => r_mv _ rfl (hρ _ _ rfl)) ?_
      clear hK a; intro a hK
      refine kt hK (i := 6) 91 rfl (by kernel_rfl) (by kernel_rfl) (by kernel_rfl) (fun _ _ _ h => h) hS0 rfl (by decide) rfl (fun ρ hρ w' hw' => r_nil _ rfl (hρ _ _ rfl)) ?_
      clear hK a; intro a hK
      refine kt hK (i := 7) 92 rfl (by kernel_rfl) (by kernel_rfl) (by kernel_rfl) (fun _ _ _ h => h) hS0 rfl (by decide) rfl (fun ρ hρ w' hw' => r_fo56_14 _ rfl (hρ _ _ rfl)) ?_
      clear hK a; intro a hK
      refine kt hK (i := 8) 93 rfl (by kernel_rfl) (by kernel_rfl) (by kernel_rfl) (fun _ _ _ h => h) hS0 rfl (by decide) rfl (fun ρ hρ w' hw' => r_ld33 _ rfl (hρ _ _ rfl) hw'.2.1) ?_
      clear hK a; intro a hK
      refine kt hK (i := 9) 94 rfl (by kernel_rfl) (by kernel_rfl) (by kernel_rfl) (fun _ _ _ h => h) hS0 rfl (by decide) rfl (fun ρ hρ w' hw' => r_mv _ rfl (hρ _ _ rfl)) ?_
      clear hK a; intro a hK
      refine kt hK (i := 10) 95 rfl (by kernel_rfl) (by kernel_rfl) (by kernel_rfl) (fun _ _ _ h => h) hS0 rfl (by decide) rfl (fun ρ hρ w' hw' => r_mv _ rfl (hρ _ _ rfl)) ?_
      clear hK a; intro a hK
      refine kt hK (i := 11) 96 rfl (by kernel_rfl) (by kernel_rfl) (by kernel_rfl) (fun _ _ _ h => h) hS0 rfl (by decide) rfl (fun ρ hρ w' hw' => r_mv _ rfl (hρ _ _ rfl)) ?_
      clear hK a; intro a hK
      refine kt hK (i := 12) 97 rfl (by kernel_rfl) (by kernel_rfl) (by kernel_rfl) (fun _ _ _ h => h) hS0 rfl (by decide) rfl (fun ρ hρ w' hw' => r_nil _ rfl (hρ _ _ rfl)) ?_
      clear hK a; intro a hK
      refine kt hK (i := 13) 98 rfl (by kernel_rfl) (by kernel_rfl) (by kernel_rfl) (fun _ _ _ h => h) hS0 rfl (by decide) rfl (fun ρ hρ w' hw' => r_fo56_12 _ rfl (hρ _ _ rfl)) ?_
      clear hK a; intro a hK
      refine kt hK (i := 14) 99 rfl (by kernel_rfl) (by kernel_rfl) (by kernel_rfl) (fun _ _ _ h => h) hS0 rfl (by decide) rfl (fun ρ hρ w' hw' => r_ld21 _ rfl (hρ _ _ rfl) hw'.2.2) ?_
      clear hK a; intro a hK
      refine kt hK (i := 15) 100 rfl (by kernel_rfl) (by kernel_rfl) (by kernel_rfl) (fun _ _ _ h => h) hS0 rfl (by decide) rfl (fun ρ hρ w' hw' => r_ix33z _ _ rfl hq (hρ _ _ rfl) (hρ _ _ rfl)) ?_
      clear hK a; intro a hK
      refine kd_store hK (i := 16) (by kernel_rfl) rfl rfl rfl (fun ρ hρ => r_sto21 _ _ rfl (hρ _ _ rfl) (hρ _ _ rfl) m1 z1) hS1 ?_
      clear hS0
      have hS0 := hS1
      refine kt hK (i := 17) 101 rfl (by kernel_rfl) (by kernel_rfl) (by kernel_rfl) (fun _ _ _ h => h) hS0 rfl (by decide) rfl (fun ρ hρ w' hw' => r_ix33z _ _ rfl hq (hρ _ _ rfl) (hρ _ _ rfl)) ?_
      clear hK a; intro a hK
      refine kd_store hK (i := 18) (by kernel_rfl) rfl rfl rfl (fun ρ hρ => r_sto21 _ _ rfl (hρ _ _ rfl) (hρ _ _ rfl) m2' z2') hS2 ?_
      refine wpAnyH_done (by kernel_rfl) ?_ _
      show Code.wp Yba.prog _ _ _ _
      obtain ⟨hA2, hSt2⟩ := (hA.ar.touch0 (Touch.refl _ w).drew).wC (q := q) hcV hiV
      refine fin st1 _ _ a ⟨hA2, hA.nil, hA.wf, fun b hF => Nat.lt_of_lt_of_le (hA.flt b hF) hSt2.1.size⟩ ((hStep.trans (Step.of_touch0 (Touch.refl _ w).drew)).trans hSt2) (fun p => ?_) (hK.sub ⟨rfl, rfl, rfl, rfl, trivial⟩)
      unfold askQ
      by_cases e : p = q
      · rw [if_pos e, if_pos e]
      · rw [if_neg e, if_neg e]; exact hQQ p
    refine wp_seq ?_
    refine wp_seq ?_
    refine wp_region_lit ?_
    refine kl hK 56 rfl (by decide) rfl (fun ρ hρ => r_mv _ rfl (hρ _ _ rfl)) ?_
    clear hK a; intro a hK
    refine kl hK 57 rfl (by decide) rfl (fun ρ hρ => r_mv _ rfl (hρ _ _ rfl)) ?_
    clear hK a; intro a hK
    refine kl hK 58 rfl (by decide) rfl (fun ρ hρ => r_nil _ rfl (hρ _ _ rfl)) ?_
    clear hK a; intro a hK
    refine kl hK 59 rfl (by decide) rfl (fun ρ hρ => r_fo62_2 _ rfl (hρ _ _ rfl)) ?_
    clear hK a; intro a hK
    refine kl hK 60 rfl (by decide) rfl (fun ρ hρ => r_fa38_0 _ rfl (hρ _ _ rfl)) ?_
    clear hK a; intro a hK
    refine kl hK 61 rfl (by decide) rfl (fun ρ hρ => r_ld21 _ rfl (hρ _ _ rfl) g7) ?_
    clear hK a; intro a hK
    refine kl hK 62 rfl (by decide) rfl (fun ρ hρ => r_eql21 _ _ rfl (hρ _ _ rfl) (hρ _ _ rfl)) ?_
    clear hK a; intro a hK
    refine wpList_nil ?_
    show Code.wp Yba.prog _ _ _ _
    by_cases h1 : (q : Int) = D.gsp
    · have hz : D.cval q = mx (D.seen q) D.gsc := by
        unfold PD.cval mx
        by_cases h2 : D.seen q < D.gsc
        · rw [if_pos ⟨by omega, h2⟩, if_pos h2]
        · rw [if_neg (fun h => h2 h.2), if_neg h2]
      refine wp_cond_true (by rw [hK.rho (.tmp 62) _ rfl]; exact congrArg Value.bool (decide_eq_true h1)) ?_
      refine wp_region_lit ?_
      refine kl hK 63 rfl (by decide) rfl (fun ρ hρ => r_mv _ rfl (hρ _ _ rfl)) ?_
      clear hK a; intro a hK
      refine kl hK 64 rfl (by decide) rfl (fun ρ hρ => r_mv _ rfl (hρ _ _ rfl)) ?_
      clear hK a; intro a hK
      refine kl hK 65 rfl (by decide) rfl (fun ρ hρ => r_nil _ rfl (hρ _ _ rfl)) ?_
      clear hK a; intro a hK
      refine kl hK 66 rfl (by decide) rfl (fun ρ hρ => r_fo62_2 _ rfl (hρ _ _ rfl)) ?_
      clear hK a; intro a hK
      refine kl hK 67 rfl (by decide) rfl (fun ρ hρ => r_fa38_1 _ rfl (hρ _ _ rfl)) ?_
      clear hK a; intro a hK
      refine kl hK 68 rfl (by decide) rfl (fun ρ hρ => r_ld21 _ rfl (hρ _ _ rfl) g8) ?_
      clear hK a; intro a hK
      refine kl hK 69 rfl (by decide) rfl (fun ρ hρ => r_max21 _ _ rfl (hρ _ _ rfl) (hρ _ _ rfl)) ?_
      clear hK a; intro a hK
      refine kl hK 8 rfl (by decide) rfl (fun ρ hρ => r_as _ rfl (hρ _ _ rfl)) ?_
      clear hK a; intro a hK
      refine wpList_nil ?_
      show Code.wp Yba.prog _ _ _ _
      exact tl _ (hK.sub ⟨by rw [hz]; rfl, rfl, rfl, rfl, rfl, trivial⟩)
    · have hz : D.cval q = D.seen q := if_neg (fun h => h1 (by omega))
      refine wp_cond_false (by rw [hK.rho (.tmp 62) _ rfl]; exact congrArg Value.bool (decide_eq_false h1)) ?_
      refine wp_skip ?_
      show Code.wp Yba.prog _ _ _ _
      exact tl _ (hK.sub ⟨by rw [hz]; rfl, rfl, rfl, rfl, rfl, trivial⟩)
end Go.Proofs.Ybulkexuo
