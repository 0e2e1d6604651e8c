import Derived.Test.YbulkexuoN7
namespace Go.Proofs.Ybulkexuo
open Go.RowKit
set_option linter.unusedSimpArgs false
set_option linter.unusedVariables false

theorem set_alloc (w : World) (b k : Nat) (v : Value) (o : Obj) (hb : b < w.heap.size) : (w.setCell ⟨b, k, none⟩ v).alloc o = (w.alloc o).setCell ⟨b, k, none⟩ v := by
  unfold World.setCell World.alloc
  simp only
  congr 1
  apply Array.ext_getElem?
  intro i
  simp only [Array.getElem?_push, Array.getElem?_modify, Array.size_modify]
  by_cases h1 : i = w.heap.size
  · subst h1
    simp
    omega
  · simp [h1]
section
variable {P : Program} {ops : Array Oper} {S : World → Prop} {Q : Exit → Act → World → Prop} {a : Act} {w w' : World} {oi : Oper} {v : Value} {n : Nat} {L : List (Nat × Value)} {fuel : Nat} {listed : Array Bool} {i : Nat} {E : Prop} {K' : Act → World → Prop}
theorem dv (hK' : Shut (∀ a w, S w → (S w → wpAnyH P .any ops Q S fuel (listed.setIfInBounds i true) a w) → K' a w)) (hK : Kn n L a) (d : Nat) (hd : oi.dst = some d) (hn : d < n) (hg : oi.guard = none) (h : ∀ ρ, Rho L ρ → (execOp ρ oi).run P w = .ok (.value v) w') (hS : S w') (hk : ∀ a', Kn n ((d, v) :: L) a' → wpAnyH P .any ops Q S fuel (listed.setIfInBounds i true) a' w') : if Region.wanted oi (yielded ops a.tmps) = true then Oper.wp P oi a w K' Q else E := by
  rw [if_pos (plainW hg)]
  unfold Oper.wp
  rw [h _ hK.rho]
  have : K' (a.put oi.dst v) w' := hK'.out _ _ hS (fun _ => by rw [hd]; exact hk _ (hK.put hn v))
  exact this
theorem ds (hK' : Shut (∀ a w, S w → (S w → wpAnyH P .any ops Q S fuel (listed.setIfInBounds i true) a w) → K' a w)) (hK : Kn n L a) (hd : oi.dst = none) (hg : oi.guard = none) (h : ∀ ρ, Rho L ρ → (execOp ρ oi).run P w = .ok .skip w') (hS : S w') (hk : wpAnyH P .any ops Q S fuel (listed.setIfInBounds i true) a w') : if Region.wanted oi (yielded ops a.tmps) = true then Oper.wp P oi a w K' Q else E := by
  rw [if_pos (plainW hg)]
  unfold Oper.wp
  rw [h _ hK.rho]
  have : K' (a.put oi.dst undef) w' := hK'.out _ _ hS (fun _ => by rw [hd]; exact hk)
  exact this
end

def zrow (N : Nat) : Obj := .cells (madeCells #[.int .i32 0] N) 21
/-- both rows are made, then both are stored -/
theorem AR.two {D : PD} {F : Nat → Prop} {B0 arB : Nat} {st : ST} {R : List Rs} {ri : Nat → Nat} {w : World} (h : AR D F B0 arB st R ri none w) (hFlt : ∀ b, F b → b < w.heap.size) {W2 : World} (hT : Touch (fun _ => False) w W2) {cB iB : Nat} (hc : w.heap.size ≤ cB) (hi : w.heap.size ≤ iB) (hne : cB ≠ iB) (rc : W2.rowIs cB 21 D.N (fun _ => .int .i32 0)) (rI : W2.rowIs iB 21 D.N (fun _ => .int .i32 0)) :
    AR D F B0 arB { st with cV := .slice (some ⟨cB, 0, none⟩) D.N D.N, iV := .slice (some ⟨iB, 0, none⟩) D.N D.N } R ri (some fun _ => false) ((W2.setCell ⟨arB, 17, none⟩ (.slice (some ⟨cB, 0, none⟩) D.N D.N)).setCell ⟨arB, 18, none⟩ (.slice (some ⟨iB, 0, none⟩) D.N D.N)) ∧ Step arB st w { st with cV := .slice (some ⟨cB, 0, none⟩) D.N D.N, iV := .slice (some ⟨iB, 0, none⟩) D.N D.N } ((W2.setCell ⟨arB, 17, none⟩ (.slice (some ⟨cB, 0, none⟩) D.N D.N)).setCell ⟨arB, 18, none⟩ (.slice (some ⟨iB, 0, none⟩) D.N D.N)) := by
  have h2 := h.touch0 hT
  obtain ⟨f, f1, f13, f14, f16, f17, f18⟩ := h2.obj
  have harB := h.arow
  have r1 := f1.set 17 (.slice (some ⟨cB, 0, none⟩) D.N D.N)
  have r2 := r1.set 18 (.slice (some ⟨iB, 0, none⟩) D.N D.N)
  refine h.mkC hFlt (((hT.mono (S' := fun b => b = arB) fun _ _ h => h.elim).setCell (a := ⟨arB, 17, none⟩) (.inl rfl) _).setCell (a := ⟨arB, 18, none⟩) (.inl rfl) _) r2 (by simpa using f13) (by simpa using f14) (by simpa using f16) (by simp) (by simp) (fun o ho => ?_) hc hi hne ?_ ?_
  · rw [ar_low r1 (by omega) _ o ho, ar_low f1 (by omega) _ o ho]
    exact World.cell?_of_block (a := ⟨arB, o, none⟩) (hT.block arB harB id)
  · exact (rc.setOther (a := ⟨arB, 17, none⟩) (show cB ≠ arB by omega) _).setOther (a := ⟨arB, 18, none⟩) (show cB ≠ arB by omega) _
  · exact (rI.setOther (a := ⟨arB, 17, none⟩) (show iB ≠ arB by omega) _).setOther (a := ⟨arB, 18, none⟩) (show iB ≠ arB by omega) _


set_option maxRecDepth 100000 in
set_option maxHeartbeats 1000000 in
theorem counts_any (D : PD) (hD : D.Fine) (F : Nat → Prop) (B0 arB gB : Nat) (hgF : F gB) (st : ST) (R : List Rs) (Qo : Option (Nat → Bool)) (q : Nat) (hq : q < D.N) (pos : Int) (w0 : World) (hA : ARB D F B0 arB st R Qo w0) (hG : GV D arB w0 gB) :
    Calls Yba.prog 18 #[ptr gB, .int .i32 q, .int .i32 pos] w0 fun e w' => e = .returned (.bool (decide (pos ≤ D.cval q))) ∧ ∃ st', ARB D F B0 arB st' R (some (askQ Qo q)) w' ∧ Step arB st w0 st' w' := by
  refine calls_of_wp (c := Yba.f18.body.getD .skip) Yba.func18 (by kernel_rfl) ?_
  rw [Yba.ntmps18]
  have hK := kn_call [ptr gB, .int .i32 q, .int .i32 pos] 111 (L := [(2, .int .i32 pos), (1, .int .i32 q), (0, ptr gB)]) ⟨rfl, rfl, rfl, trivial⟩ (by simp)
  generalize ({ tmps := [ptr gB, .int .i32 q, .int .i32 pos].toArray ++ Array.replicate (111 - [ptr gB, .int .i32 q, .int .i32 pos].toArray.size) undef, defers := [] } : Act) = a at *
  have hN := hD.N20
  have g0 : w0.cell? ⟨gB, 0, none⟩ = some (ptr arB) := World.rowIs.cell hG (i := 0) (by omega)
  obtain ⟨-, -, -, k17, k18, kz⟩ := hA.ar.cells
  obtain ⟨hb, hcap, k6, -, -, -⟩ := hA.ar.ck.hand
  conv => arg 2; whnf
  refine wp_seq ?_
  refine wp_region_lit ?_
  refine kl hK 6 rfl (by decide) rfl (fun ρ hρ => r_as _ rfl (hρ _ _ rfl)) ?_
  clear hK a; intro a hK
  refine wpList_nil ?_
  show Code.wp Yba.prog _ _ _ _
  refine wp_seq ?_
  refine wp_region_lit ?_
  refine kl hK 11 rfl (by decide) rfl (fun ρ hρ => r_mv _ rfl (hρ _ _ rfl)) ?_
  clear hK a; intro a hK
  refine kl hK 12 rfl (by decide) rfl (fun ρ hρ => r_nil _ rfl (hρ _ _ rfl)) ?_
  clear hK a; intro a hK
  refine kl hK 13 rfl (by decide) rfl (fun ρ hρ => r_fo62_0 _ rfl (hρ _ _ rfl)) ?_
  clear hK a; intro a hK
  refine kl hK 14 rfl (by decide) rfl (fun ρ hρ => r_ld51 _ rfl (hρ _ _ rfl) g0) ?_
  clear hK a; intro a hK
  refine kl hK 7 rfl (by decide) rfl (fun ρ hρ => r_as _ rfl (hρ _ _ rfl)) ?_
  clear hK a; intro a hK
  refine wpList_nil ?_
  show Code.wp Yba.prog _ _ _ _
  replace hK := hK.sub (M := (7, ptr arB) :: (2, .int .i32 pos) :: (1, .int .i32 q) :: (0, ptr gB) :: []) ⟨rfl, rfl, rfl, rfl, trivial⟩
  refine wp_seq ?_
  refine wp_seq ?_
  rcases hA.ar.cc with ⟨hQ0, hcV, hiV⟩ | ⟨Q, cB, iB, hQ0, hcV, hiV, -⟩
  · subst hQ0
    rw [hiV] at k18
    rw [hcV] at k17
    refine wp_region_lit ?_
    refine kl hK 15 rfl (by decide) rfl (fun ρ hρ => r_mv _ rfl (hρ _ _ rfl)) ?_
    clear hK a; intro a hK
    refine kl hK 16 rfl (by decide) rfl (fun ρ hρ => r_nil _ rfl (hρ _ _ rfl)) ?_
    clear hK a; intro a hK
    refine kl hK 17 rfl (by decide) rfl (fun ρ hρ => r_fo56_14 _ rfl (hρ _ _ rfl)) ?_
    clear hK a; intro a hK
    refine kl hK 18 rfl (by decide) rfl (fun ρ hρ => r_ld33 _ rfl (hρ _ _ rfl) k18) ?_
    clear hK a; intro a hK
    refine kl hK 19 rfl (by decide) rfl (fun ρ hρ => r_isnil 33 21 Yba.underlying33 _ rfl (hρ _ _ rfl) (hρ _ _ rfl)) ?_
    clear hK a; intro a hK
    refine wpList_nil ?_
    show Code.wp Yba.prog _ _ _ _
    refine wp_cond_true (hK.rho (.tmp 19) _ rfl) ?_
    obtain ⟨f, f1, -⟩ := hA.ar.obj
    have harB := f1.lt
    have f1' : w0.drew.rowIs arB 56 19 f := f1
    have fin : ∀ (cB iB : Nat) (W2 : World) (a : Act), Touch (fun _ => False) w0 W2 → w0.heap.size ≤ cB → w0.heap.size ≤ iB → cB ≠ iB → W2.rowIs cB 21 D.N (fun _ => .int .i32 0) → W2.rowIs iB 21 D.N (fun _ => .int .i32 0) → Kn 111 ((7, ptr arB) :: (2, .int .i32 pos) :: (1, .int .i32 q) :: (0, ptr gB) :: []) a → Code.wp Yba.prog (nav [1, 1, 1] (Yba.f18.body.getD .skip)) (bodyPost Yba.prog Yba.f18 fun e w' => e = .returned (.bool (decide (pos ≤ D.cval q))) ∧ ∃ st', ARB D F B0 arB st' R (some (askQ none q)) w' ∧ Step arB st w0 st' w') a ((W2.setCell ⟨arB, 17, none⟩ (.slice (some ⟨cB, 0, none⟩) D.N D.N)).setCell ⟨arB, 18, none⟩ (.slice (some ⟨iB, 0, none⟩) D.N D.N)) := by
      clear hK a
      intro cB iB W2 a hT hc hi hne rc rI hK
      obtain ⟨hA2, hSt⟩ := hA.ar.two hA.flt hT hc hi hne rc rI
      exact x18 D hD F B0 arB gB hgF st R none q hq pos w0 _ (fun _ => false) (fun _ => rfl) _ ⟨hA2, hA.nil, hA.wf, fun b hF => Nat.lt_of_lt_of_le (hA.flt b hF) hSt.1.size⟩ (hG.step (hSt.1.block gB (hA.flt gB hgF) (F_not hA hgF))) hSt a hK
    have hlow : ∀ (W : World), W.heap[arB]? = w0.heap[arB]? → W.cell? ⟨arB, 6, none⟩ = some (.slice (some ⟨hb, 0, none⟩) D.N hcap) := fun W e => (World.cell?_of_block (a := ⟨arB, 6, none⟩) e).trans k6
    refine wp_region_noPanic ?_
    refine wp_region_held_drew (S := fun w' => w'.cell? ⟨arB, 6, none⟩ = some (.slice (some ⟨hb, 0, none⟩) D.N hcap)) (by kernel_rfl) k6 (fun hS0 => ?_)
    refine kt hK (i := 0) 20 rfl (by kernel_rfl) (by kernel_rfl) (by kernel_rfl) (fun _ _ _ h => h) hS0 rfl (by decide) rfl (fun ρ hρ w' hw' => r_mv _ rfl (hρ _ _ rfl)) ?_
    clear hK a; intro a hK
    refine kt hK (i := 1) 21 rfl (by kernel_rfl) (by kernel_rfl) (by kernel_rfl) (fun _ _ _ h => h) hS0 rfl (by decide) rfl (fun ρ hρ w' hw' => r_mv _ rfl (hρ _ _ rfl)) ?_
    clear hK a; intro a hK
    refine kt hK (i := 2) 22 rfl (by kernel_rfl) (by kernel_rfl) (by kernel_rfl) (fun _ _ _ h => h) hS0 rfl (by decide) rfl (fun ρ hρ w' hw' => r_mv _ rfl (hρ _ _ rfl)) ?_
    clear hK a; intro a hK
    refine kt hK (i := 3) 23 rfl (by kernel_rfl) (by kernel_rfl) (by kernel_rfl) (fun _ _ _ h => h) hS0 rfl (by decide) rfl (fun ρ hρ w' hw' => r_nil _ rfl (hρ _ _ rfl)) ?_
    clear hK a; intro a hK
    refine kt hK (i := 4) 24 rfl (by kernel_rfl) (by kernel_rfl) (by kernel_rfl) (fun _ _ _ h => h) hS0 rfl (by decide) rfl (fun ρ hρ w' hw' => r_fo56_2 _ rfl (hρ _ _ rfl)) ?_
    clear hK a; intro a hK
    refine kt hK (i := 5) 25 rfl (by kernel_rfl) (by kernel_rfl) (by kernel_rfl) (fun _ _ _ h => h) hS0 rfl (by decide) rfl (fun ρ hρ w' hw' => r_ld25 _ rfl (hρ _ _ rfl) hw') ?_
    clear hK a; intro a hK
    refine kt hK (i := 6) 26 rfl (by kernel_rfl) (by kernel_rfl) (by kernel_rfl) (fun _ _ _ h => h) hS0 rfl (by decide) rfl (fun ρ hρ w' hw' => r_len25 _ rfl (hρ _ _ rfl)) ?_
    clear hK a; intro a hK
    refine kt hK (i := 8) 28 rfl (by kernel_rfl) (by kernel_rfl) (by kernel_rfl) (fun _ _ _ h => h) hS0 rfl (by decide) rfl (fun ρ hρ w' hw' => r_mv _ rfl (hρ _ _ rfl)) ?_
    clear hK a; intro a hK
    refine kt hK (i := 9) 29 rfl (by kernel_rfl) (by kernel_rfl) (by kernel_rfl) (fun _ _ _ h => h) hS0 rfl (by decide) rfl (fun ρ hρ w' hw' => r_nil _ rfl (hρ _ _ rfl)) ?_
    clear hK a; intro a hK
    refine kt hK (i := 10) 30 rfl (by kernel_rfl) (by kernel_rfl) (by kernel_rfl) (fun _ _ _ h => h) hS0 rfl (by decide) rfl (fun ρ hρ w' hw' => r_fo56_2 _ rfl (hρ _ _ rfl)) ?_
    clear hK a; intro a hK
    refine kt hK (i := 11) 31 rfl (by kernel_rfl) (by kernel_rfl) (by kernel_rfl) (fun _ _ _ h => h) hS0 rfl (by decide) rfl (fun ρ hρ w' hw' => r_ld25 _ rfl (hρ _ _ rfl) hw') ?_
    clear hK a; intro a hK
    refine kt hK (i := 12) 32 rfl (by kernel_rfl) (by kernel_rfl) (by kernel_rfl) (fun _ _ _ h => h) hS0 rfl (by decide) rfl (fun ρ hρ w' hw' => r_len25 _ rfl (hρ _ _ rfl)) ?_
    clear hK a; intro a hK
    have e1 : (w0.drew.alloc (.cells (madeCells #[.int .i32 0] D.N) 21)).heap[arB]? = w0.heap[arB]? := Below.heap_alloc w0.drew _ _ harB
    have e2 : ((w0.drew.alloc (.cells (madeCells #[.int .i32 0] D.N) 21)).alloc (.cells (madeCells #[.int .i32 0] D.N) 21)).heap[arB]? = w0.heap[arB]? := (Below.heap_alloc _ _ _ (by rw [alloc_size]; exact Nat.lt_succ_of_lt harB)).trans e1
    have hT1 : Touch (fun _ => False) w0 (w0.drew.alloc (.cells (madeCells #[.int .i32 0] D.N) 21)) := (Touch.refl _ w0).drew.alloc _
    have hT2 : Touch (fun _ => False) w0 ((w0.drew.alloc (.cells (madeCells #[.int .i32 0] D.N) 21)).alloc (.cells (madeCells #[.int .i32 0] D.N) 21)) := hT1.alloc _
    have ra := World.rowIs_made w0.drew (.int .i32 0) D.N 21
    have rb := World.rowIs_made (w0.drew.alloc (.cells (madeCells #[.int .i32 0] D.N) 21)) (.int .i32 0) D.N 21
    have hsz1 : (w0.drew.alloc (.cells (madeCells #[.int .i32 0] D.N) 21)).heap.size = w0.heap.size + 1 := alloc_size _ _
    have ra' : ((w0.drew.alloc (.cells (madeCells #[.int .i32 0] D.N) 21)).alloc (.cells (madeCells #[.int .i32 0] D.N) 21)).rowIs w0.drew.heap.size 21 D.N (fun _ => .int .i32 0) := ra.of_block (Below.heap_alloc _ _ _ ra.lt)
    have hds : w0.drew.heap.size = w0.heap.size := rfl
    refine wpAnyH_ready (rs := [7, 13]) (by kernel_rfl) (by simp) ?_
    refine AllReadyH.cons rfl (fun K' hK' => ?_) (AllReadyH.cons rfl (fun K' hK' => ?_) AllReadyH.nil)
    · refine dv hK' hK 27 rfl (by decide) rfl (fun ρ hρ => r_make1 33 21 (.int .i32 0) 4 rfl (by decide) Yba.underlying33 info21' _ _ rfl (by omega) (hρ _ _ rfl) (hρ _ _ rfl)) (hlow _ e1) ?_
      clear hK hK' K' a; intro a hK
      have hS1 := hlow _ e1
      refine kt hK (i := 14) 34 rfl (by kernel_rfl) (by kernel_rfl) (by kernel_rfl) (fun _ _ _ h => h) hS1 rfl (by decide) rfl (fun ρ hρ w' hw' => r_nil _ rfl (hρ _ _ rfl)) ?_
      clear hK a; intro a hK
      refine kt hK (i := 15) 35 rfl (by kernel_rfl) (by kernel_rfl) (by kernel_rfl) (fun _ _ _ h => h) hS1 rfl (by decide) rfl (fun ρ hρ w' hw' => r_fo56_13 _ rfl (hρ _ _ rfl)) ?_
      clear hK a; intro a hK
      refine wpAnyH_ready (rs := [13, 16]) (by kernel_rfl) (by simp) ?_
      refine AllReadyH.cons rfl (fun K' hK' => ?_) (AllReadyH.cons rfl (fun K' hK' => ?_) AllReadyH.nil)
      · refine dv hK' hK 33 rfl (by decide) rfl (fun ρ hρ => r_make1 33 21 (.int .i32 0) 4 rfl (by decide) Yba.underlying33 info21' _ _ rfl (by omega) (hρ _ _ rfl) (hρ _ _ rfl)) (hlow _ e2) ?_
        clear hK hK' K' a; intro a hK
        have r2 : ((w0.drew.alloc (.cells (madeCells #[.int .i32 0] D.N) 21)).alloc (.cells (madeCells #[.int .i32 0] D.N) 21)).rowIs arB 56 19 f := f1.of_block e2
        have r3 := r2.set 17 (.slice (some ⟨w0.drew.heap.size, 0, none⟩) D.N D.N)
        have r4 := r3.set 18 (.slice (some ⟨(w0.drew.alloc (.cells (madeCells #[.int .i32 0] D.N) 21)).heap.size, 0, none⟩) D.N D.N)
        have hS3 : (((w0.drew.alloc (.cells (madeCells #[.int .i32 0] D.N) 21)).alloc (.cells (madeCells #[.int .i32 0] D.N) 21)).setCell ⟨arB, 17, none⟩ (.slice (some ⟨w0.drew.heap.size, 0, none⟩) D.N D.N)).cell? ⟨arB, 6, none⟩ = some (.slice (some ⟨hb, 0, none⟩) D.N hcap) := (ar_low r2 (by omega) _ 6 (by omega)).trans (hlow _ e2)
        have hS4 : ((((w0.drew.alloc (.cells (madeCells #[.int .i32 0] D.N) 21)).alloc (.cells (madeCells #[.int .i32 0] D.N) 21)).setCell ⟨arB, 17, none⟩ (.slice (some ⟨w0.drew.heap.size, 0, none⟩) D.N D.N)).setCell ⟨arB, 18, none⟩ (.slice (some ⟨(w0.drew.alloc (.cells (madeCells #[.int .i32 0] D.N) 21)).heap.size, 0, none⟩) D.N D.N)).cell? ⟨arB, 6, none⟩ = some (.slice (some ⟨hb, 0, none⟩) D.N hcap) := (ar_low r3 (by omega) _ 6 (by omega)).trans hS3
        refine kd_store hK (i := 16) (by kernel_rfl) rfl rfl rfl (fun ρ hρ => r_sto33 _ _ rfl (hρ _ _ rfl) (hρ _ _ rfl) (r2.cell (i := 17) (by omega)) (r2.frozen 17)) hS3 ?_
        refine kt hK (i := 17) 36 rfl (by kernel_rfl) (by kernel_rfl) (by kernel_rfl) (fun _ _ _ h => h) hS3 rfl (by decide) rfl (fun ρ hρ w' hw' => r_nil _ rfl (hρ _ _ rfl)) ?_
        clear hK a; intro a hK
        refine kt hK (i := 18) 37 rfl (by kernel_rfl) (by kernel_rfl) (by kernel_rfl) (fun _ _ _ h => h) hS3 rfl (by decide) rfl (fun ρ hρ w' hw' => r_fo56_14 _ rfl (hρ _ _ rfl)) ?_
        clear hK a; intro a hK
        refine kd_store hK (i := 19) (by kernel_rfl) rfl rfl rfl (fun ρ hρ => r_sto33 _ _ rfl (hρ _ _ rfl) (hρ _ _ rfl) (r3.cell (i := 18) (by omega)) (r3.frozen 18)) hS4 ?_
        refine wpAnyH_done (by kernel_rfl) ?_ _
        exact fin w0.drew.heap.size (w0.drew.alloc (.cells (madeCells #[.int .i32 0] D.N) 21)).heap.size ((w0.drew.alloc (.cells (madeCells #[.int .i32 0] D.N) 21)).alloc (.cells (madeCells #[.int .i32 0] D.N) 21)) a hT2 (Nat.le_refl _) (by omega) (by omega) ra' rb (hK.sub ⟨rfl, rfl, rfl, rfl, trivial⟩)
      · have r1 : (w0.drew.alloc (.cells (madeCells #[.int .i32 0] D.N) 21)).rowIs arB 56 19 f := f1.of_block e1
        have hSa : ((w0.drew.alloc (.cells (madeCells #[.int .i32 0] D.N) 21)).setCell ⟨arB, 17, none⟩ (.slice (some ⟨w0.drew.heap.size, 0, none⟩) D.N D.N)).cell? ⟨arB, 6, none⟩ = some (.slice (some ⟨hb, 0, none⟩) D.N hcap) := (ar_low r1 (by omega) _ 6 (by omega)).trans (hlow _ e1)
        refine ds hK' hK rfl rfl (fun ρ hρ => r_sto33 _ _ rfl (hρ _ _ rfl) (hρ _ _ rfl) (r1.cell (i := 17) (by omega)) (r1.frozen 17)) hSa ?_
        clear hK' K'
        have hcom := set_alloc (w0.drew.alloc (.cells (madeCells #[.int .i32 0] D.N) 21)) arB 17 (.slice (some ⟨w0.drew.heap.size, 0, none⟩) D.N D.N) (.cells (madeCells #[.int .i32 0] D.N) 21) (by omega)
        have hszA : ((w0.drew.alloc (.cells (madeCells #[.int .i32 0] D.N) 21)).setCell ⟨arB, 17, none⟩ (.slice (some ⟨w0.drew.heap.size, 0, none⟩) D.N D.N)).heap.size = (w0.drew.alloc (.cells (madeCells #[.int .i32 0] D.N) 21)).heap.size := setCell_size _ _ _
        have r2 : ((w0.drew.alloc (.cells (madeCells #[.int .i32 0] D.N) 21)).alloc (.cells (madeCells #[.int .i32 0] D.N) 21)).rowIs arB 56 19 f := f1.of_block e2
        have r3 := r2.set 17 (.slice (some ⟨w0.drew.heap.size, 0, none⟩) D.N D.N)
        have r4 := r3.set 18 (.slice (some ⟨(w0.drew.alloc (.cells (madeCells #[.int .i32 0] D.N) 21)).heap.size, 0, none⟩) D.N D.N)
        have hS3 : (((w0.drew.alloc (.cells (madeCells #[.int .i32 0] D.N) 21)).alloc (.cells (madeCells #[.int .i32 0] D.N) 21)).setCell ⟨arB, 17, none⟩ (.slice (some ⟨w0.drew.heap.size, 0, none⟩) D.N D.N)).cell? ⟨arB, 6, none⟩ = some (.slice (some ⟨hb, 0, none⟩) D.N hcap) := (ar_low r2 (by omega) _ 6 (by omega)).trans (hlow _ e2)
        have hS4 : ((((w0.drew.alloc (.cells (madeCells #[.int .i32 0] D.N) 21)).alloc (.cells (madeCells #[.int .i32 0] D.N) 21)).setCell ⟨arB, 17, none⟩ (.slice (some ⟨w0.drew.heap.size, 0, none⟩) D.N D.N)).setCell ⟨arB, 18, none⟩ (.slice (some ⟨(w0.drew.alloc (.cells (madeCells #[.int .i32 0] D.N) 21)).heap.size, 0, none⟩) D.N D.N)).cell? ⟨arB, 6, none⟩ = some (.slice (some ⟨hb, 0, none⟩) D.N hcap) := (ar_low r3 (by omega) _ 6 (by omega)).trans hS3
        refine kd_val hK (i := 13) 33 (by kernel_rfl) rfl rfl (by decide) rfl (fun ρ hρ => r_make1 33 21 (.int .i32 0) 4 rfl (by decide) Yba.underlying33 info21' _ _ rfl (by omega) (hρ _ _ rfl) (hρ _ _ rfl)) (by rw [hcom]; exact hS3) ?_
        clear hK a; intro a hK
        rw [hszA] at hK
        rw [hcom]
        refine kt hK (i := 17) 36 rfl (by kernel_rfl) (by kernel_rfl) (by kernel_rfl) (fun _ _ _ h => h) hS3 rfl (by decide) rfl (fun ρ hρ w' hw' => r_nil _ rfl (hρ _ _ rfl)) ?_
        clear hK a; intro a hK
        refine kt hK (i := 18) 37 rfl (by kernel_rfl) (by kernel_rfl) (by kernel_rfl) (fun _ _ _ h => h) hS3 rfl (by decide) rfl (fun ρ hρ w' hw' => r_fo56_14 _ rfl (hρ _ _ rfl)) ?_
        clear hK a; intro a hK
        refine kd_store hK (i := 19) (by kernel_rfl) rfl rfl rfl (fun ρ hρ => r_sto33 _ _ rfl (hρ _ _ rfl) (hρ _ _ rfl) (r3.cell (i := 18) (by omega)) (r3.frozen 18)) hS4 ?_
        refine wpAnyH_done (by kernel_rfl) ?_ _
        exact fin w0.drew.heap.size (w0.drew.alloc (.cells (madeCells #[.int .i32 0] D.N) 21)).heap.size ((w0.drew.alloc (.cells (madeCells #[.int .i32 0] D.N) 21)).alloc (.cells (madeCells #[.int .i32 0] D.N) 21)) a hT2 (Nat.le_refl _) (by omega) (by omega) ra' rb (hK.sub ⟨rfl, rfl, rfl, rfl, trivial⟩)
    · refine dv hK' hK 33 rfl (by decide) rfl (fun ρ hρ => r_make1 33 21 (.int .i32 0) 4 rfl (by decide) Yba.underlying33 info21' _ _ rfl (by omega) (hρ _ _ rfl) (hρ _ _ rfl)) (hlow _ e1) ?_
      clear hK hK' K' a; intro a hK
      refine kd_val hK (i := 7) 27 (by kernel_rfl) rfl rfl (by decide) rfl (fun ρ hρ => r_make1 33 21 (.int .i32 0) 4 rfl (by decide) Yba.underlying33 info21' _ _ rfl (by omega) (hρ _ _ rfl) (hρ _ _ rfl)) (hlow _ e2) ?_
      clear hK a; intro a hK
      have hS2 := hlow _ e2
      refine kt hK (i := 14) 34 rfl (by kernel_rfl) (by kernel_rfl) (by kernel_rfl) (fun _ _ _ h => h) hS2 rfl (by decide) rfl (fun ρ hρ w' hw' => r_nil _ rfl (hρ _ _ rfl)) ?_
      clear hK a; intro a hK
      refine kt hK (i := 15) 35 rfl (by kernel_rfl) (by kernel_rfl) (by kernel_rfl) (fun _ _ _ h => h) hS2 rfl (by decide) rfl (fun ρ hρ w' hw' => r_fo56_13 _ rfl (hρ _ _ rfl)) ?_
      clear hK a; intro a hK
      have r2 : ((w0.drew.alloc (.cells (madeCells #[.int .i32 0] D.N) 21)).alloc (.cells (madeCells #[.int .i32 0] D.N) 21)).rowIs arB 56 19 f := f1.of_block e2
      have r3 := r2.set 17 (.slice (some ⟨(w0.drew.alloc (.cells (madeCells #[.int .i32 0] D.N) 21)).heap.size, 0, none⟩) D.N D.N)
      have r4 := r3.set 18 (.slice (some ⟨w0.drew.heap.size, 0, none⟩) D.N D.N)
      have hS3 : (((w0.drew.alloc (.cells (madeCells #[.int .i32 0] D.N) 21)).alloc (.cells (madeCells #[.int .i32 0] D.N) 21)).setCell ⟨arB, 17, none⟩ (.slice (some ⟨(w0.drew.alloc (.cells (madeCells #[.int .i32 0] D.N) 21)).heap.size, 0, none⟩) D.N D.N)).cell? ⟨arB, 6, none⟩ = some (.slice (some ⟨hb, 0, none⟩) D.N hcap) := (ar_low r2 (by omega) _ 6 (by omega)).trans (hlow _ e2)
      have hS4 : ((((w0.drew.alloc (.cells (madeCells #[.int .i32 0] D.N) 21)).alloc (.cells (madeCells #[.int .i32 0] D.N) 21)).setCell ⟨arB, 17, none⟩ (.slice (some ⟨(w0.drew.alloc (.cells (madeCells #[.int .i32 0] D.N) 21)).heap.size, 0, none⟩) D.N D.N)).setCell ⟨arB, 18, none⟩ (.slice (some ⟨w0.drew.heap.size, 0, none⟩) D.N D.N)).cell? ⟨arB, 6, none⟩ = some (.slice (some ⟨hb, 0, none⟩) D.N hcap) := (ar_low r3 (by omega) _ 6 (by omega)).trans hS3
      refine kd_store hK (i := 16) (by kernel_rfl) rfl rfl rfl (fun ρ hρ => r_sto33 _ _ rfl (hρ _ _ rfl) (hρ _ _ rfl) (r2.cell (i := 17) (by omega)) (r2.frozen 17)) hS3 ?_
      refine kt hK (i := 17) 36 rfl (by kernel_rfl) (by kernel_rfl) (by kernel_rfl) (fun _ _ _ h => h) hS3 rfl (by decide) rfl (fun ρ hρ w' hw' => r_nil _ rfl (hρ _ _ rfl)) ?_
      clear hK a; intro a hK
      refine kt hK (i := 18) 37 rfl (by kernel_rfl) (by kernel_rfl) (by kernel_rfl) (fun _ _ _ h => h) hS3 rfl (by decide) rfl (fun ρ hρ w' hw' => r_fo56_14 _ rfl (hρ _ _ rfl)) ?_
      clear hK a; intro a hK
      refine kd_store hK (i := 19) (by kernel_rfl) rfl rfl rfl (fun ρ hρ => r_sto33 _ _ rfl (hρ _ _ rfl) (hρ _ _ rfl) (r3.cell (i := 18) (by omega)) (r3.frozen 18)) hS4 ?_
      refine wpAnyH_done (by kernel_rfl) ?_ _
      exact fin (w0.drew.alloc (.cells (madeCells #[.int .i32 0] D.N) 21)).heap.size w0.drew.heap.size ((w0.drew.alloc (.cells (madeCells #[.int .i32 0] D.N) 21)).alloc (.cells (madeCells #[.int .i32 0] D.N) 21)) a hT2 (by omega) (Nat.le_refl _) (by omega) rb ra' (hK.sub ⟨rfl, rfl, rfl, rfl, trivial⟩)
  · subst hQ0
    rw [hiV] at k18
    refine wp_region_lit ?_
    refine kl hK 15 rfl (by decide) rfl (fun ρ hρ => r_mv _ rfl (hρ _ _ rfl)) ?_
    clear hK a; intro a hK
    refine kl hK 16 rfl (by decide) rfl (fun ρ hρ => r_nil _ rfl (hρ _ _ rfl)) ?_
    clear hK a; intro a hK
    refine kl hK 17 rfl (by decide) rfl (fun ρ hρ => r_fo56_14 _ rfl (hρ _ _ rfl)) ?_
    clear hK a; intro a hK
    refine kl hK 18 rfl (by decide) rfl (fun ρ hρ => r_ld33 _ rfl (hρ _ _ rfl) k18) ?_
    clear hK a; intro a hK
    refine kl hK 19 rfl (by decide) rfl (fun ρ hρ => r_notnil 33 21 Yba.underlying33 _ rfl (hρ _ _ rfl) (hρ _ _ rfl)) ?_
    clear hK a; intro a hK
    refine wpList_nil ?_
    show Code.wp Yba.prog _ _ _ _
    refine wp_cond_false (hK.rho (.tmp 19) _ rfl) ?_
    refine wp_skip ?_
    show Code.wp Yba.prog _ _ _ _
    exact x18 D hD F B0 arB gB hgF st R (some Q) q hq pos w0 st Q (fun _ => rfl) w0 hA hG Step.refl a (hK.sub ⟨rfl, rfl, rfl, rfl, trivial⟩)
end Go.Proofs.Ybulkexuo
