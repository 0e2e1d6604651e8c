import Derived.Test.YbulkexuoN9
namespace Go.Proofs.Ybulkexuo
open Go.RowKit
set_option linter.unusedSimpArgs false
set_option linter.unusedVariables false

/-- the rises that were noted are checked -/
def ph1 (D : PD) (S : SQ) : Nat → SQ
  | 0 => S
  | i + 1 => match (ph1 D S i).1[i]? with | some r => chk D (ph1 D S i) r.p r.cnt | none => ph1 D S i
def chks (D : PD) (S : SQ) (l : List Nat) : SQ := l.foldl (fun S p => chk D S p (D.lkp p).1) S
theorem chks_app (D : PD) (S : SQ) (l l' : List Nat) : chks D S (l ++ l') = chks D (chks D S l) l' := List.foldl_append ..
def PD.prs (D : PD) (l : Nat) : List Nat := (D.ent l).map (·.1)
def fin (D : PD) (S : SQ) : SQ :=
  if 0 < D.asc then chk D (chks D (ph1 D S S.1.length) (D.prs D.ll)) D.asp (D.lkp D.asp).1 else chks D (ph1 D S S.1.length) (D.prs D.ll)
theorem rz_len (R : List Rs) (r : Rs) : R.length ≤ (rz R r).length := by
  unfold rz
  split
  · simp
  · split
    · simp
    · exact Nat.le_refl _
theorem chk_len (D : PD) (S : SQ) (p : Nat) (n : Int) : S.1.length ≤ (chk D S p n).1.length := by
  unfold chk
  split
  · exact Nat.le_refl _
  · split
    · show _ ≤ (if _ then _ else _ : List Rs).length
      split
      · exact rz_len _ _
      · exact Nat.le_refl _
    · exact Nat.le_refl _
theorem ph1_len (D : PD) (S : SQ) : ∀ i, S.1.length ≤ (ph1 D S i).1.length
  | 0 => Nat.le_refl _
  | i + 1 => by
    have := ph1_len D S i
    unfold ph1
    split
    · exact Nat.le_trans this (chk_len _ _ _ _)
    · exact this
theorem peel_call {o : Oper} {Q : Exit → Act → World → Prop} {a : Act} {w : World} {n : Nat} {L : List (Nat × Value)} (hK : Kn n L a) (d : Nat) (hd : o.dst = some d) (hn : d < n) {fn : Nat} {args : Array Value} {R : Ending → World → Prop} (h : ∀ ρ, Rho L ρ → (execOp ρ o).run Yba.prog w = .ok (.enter fn args) w) (hc : Calls Yba.prog fn args w R)
    (hR : ∀ e w', R e w' → ∃ v, e = .returned v ∧ ∀ a', Kn n ((d, v) :: L) a' → Q .normal a' w') : peelQ Yba.prog o Q .normal a w := by
  show o.wp Yba.prog a w (fun a' w' => Q .normal a' w') Q
  unfold Oper.wp
  rw [h _ hK.rho]
  refine Calls.mono hc fun e w' hr => ?_
  obtain ⟨v, rfl, hk⟩ := hR e w' hr
  have : Q .normal (a.put o.dst v) w' := by rw [hd]; exact hk _ (hK.put hn v)
  exact this
/-- what lies while entries are checked, since w0 -/
structure CE (D : PD) (F : Nat → Prop) (B0 arB gB b3 b4 b5 b6 : Nat) (st0 : ST) (w0 : World) (S : SQ) (st : ST) (w : World) : Prop where
  arb : ARB D F B0 arB st S.1 S.2 w
  stp : Step arB st0 w0 st w
  cl : CL D arB gB b3 b4 b5 b6 st w
  gv : GV D arB w gB
theorem CE.step {D : PD} {F : Nat → Prop} {B0 arB gB b3 b4 b5 b6 : Nat} {st0 : ST} {w0 : World} {S S' : SQ} {st st' : ST} {w w' : World} (hgF : F gB) (h : CE D F B0 arB gB b3 b4 b5 b6 st0 w0 S st w) (hA : ARB D F B0 arB st' S'.1 S'.2 w') (hs : Step arB st w st' w') : CE D F B0 arB gB b3 b4 b5 b6 st0 w0 S' st' w' :=
  ⟨hA, h.stp.trans hs, h.cl.step hs, h.gv.step (hs.1.block gB (h.arb.flt gB hgF) (F_not h.arb hgF))⟩
theorem CE.below {D : PD} {F : Nat → Prop} {B0 arB gB b3 b4 b5 b6 : Nat} {st0 : ST} {w0 : World} {S : SQ} {st : ST} {w w' : World} (hgF : F gB) (h : CE D F B0 arB gB b3 b4 b5 b6 st0 w0 S st w) (hb : Below w.heap.size w w') : CE D F B0 arB gB b3 b4 b5 b6 st0 w0 S st w' := h.step hgF (h.arb.below hb) (Step.of_below hb)
/-- a fixed block, since w0 -/
theorem CE.fix {D : PD} {F : Nat → Prop} {B0 arB gB b3 b4 b5 b6 : Nat} {st0 : ST} {w0 : World} {S : SQ} {st : ST} {w : World} (h : CE D F B0 arB gB b3 b4 b5 b6 st0 w0 S st w) {b : Nat} (hb : b < w0.heap.size) (hn : ¬ TSet arB st0 b) : w.heap[b]? = w0.heap[b]? := h.stp.1.block b hb hn

set_option maxRecDepth 100000 in
set_option maxHeartbeats 1000000 in
theorem m9a (D : PD) (hD : D.Fine) (F : Nat → Prop) (B0 arB gB : Nat) (hgF : F gB) (b3 b4 b5 b6 : Nat) (st0 : ST) (w0 : World) (S0 : SQ) (hlen : S0.1.length ≤ 20) (Q : Exit → Act → World → Prop) (K : Act → World → Prop) (hKK : ∀ a w st, Kn 78 ((6, ptr b6) :: (5, ptr b5) :: (4, ptr b4) :: (3, ptr b3) :: []) a → CE D F B0 arB gB b3 b4 b5 b6 st0 w0 (ph1 D S0 S0.1.length) st w → K a w) (a : Act) (w : World) (hK : Kn 78 ((8, .int .i64 S0.1.length) :: (7, .int .i64 (0 : Nat)) :: (6, ptr b6) :: (5, ptr b5) :: (4, ptr b4) :: (3, ptr b3) :: []) a) (hC : CE D F B0 arB gB b3 b4 b5 b6 st0 w0 S0 st0 w) :
    Code.wp Yba.prog (nav [1, 1, 0, 1] (Yba.f9.body.getD .skip)) (Exit.then K Q) a w := by
  have hN := hD.N20
  refine loop_n K (fun n a w => ∃ i st, i ≤ S0.1.length ∧ n = S0.1.length - i ∧ Kn 78 ((8, .int .i64 S0.1.length) :: (7, .int .i64 (i : Nat)) :: (6, ptr b6) :: (5, ptr b5) :: (4, ptr b4) :: (3, ptr b3) :: []) a ∧ CE D F B0 arB gB b3 b4 b5 b6 st0 w0 (ph1 D S0 i) st w) ⟨0, st0, Nat.zero_le _, rfl, hK, hC⟩ ?_
  clear hK hC a w
  rintro n a w R ⟨i, st, hi, hn, hK, hC⟩ hR
  refine wp_seq ?_
  refine wp_seq ?_
  refine wp_region_lit ?_
  refine kl hK 20 rfl (by decide) rfl (fun ρ hρ => r_mv _ rfl (hρ _ _ rfl)) ?_
  clear hK a; intro a hK
  refine kl hK 21 rfl (by decide) rfl (fun ρ hρ => r_mv _ rfl (hρ _ _ rfl)) ?_
  clear hK a; intro a hK
  refine kl hK 22 rfl (by decide) rfl (fun ρ hρ => r_lss3 _ _ rfl (hρ _ _ rfl) (hρ _ _ rfl)) ?_
  clear hK a; intro a hK
  refine wpList_nil ?_
  show Code.wp Yba.prog _ _ _ _
  by_cases hil : i < S0.1.length
  · have hl2 := ph1_len D S0 i
    obtain ⟨r, hr⟩ : ∃ r, (ph1 D S0 i).1[i]? = some r := ⟨_, List.getElem?_eq_getElem (by omega)⟩
    have hnx : ph1 D S0 (i + 1) = chk D (ph1 D S0 i) r.p r.cnt := by
      show (match (ph1 D S0 i).1[i]? with | some r => chk D (ph1 D S0 i) r.p r.cnt | none => ph1 D S0 i) = _
      rw [hr]
    have hrp : r.p < D.N := hC.arb.wf.lt r (List.mem_of_getElem? hr)
    have hwl := hC.arb.wf.len
    obtain ⟨k13, -, -, -, -, -⟩ := hC.arb.ar.cells
    obtain ⟨g, cap, hrv⟩ : ∃ g cap, st.rV = .slice (some ⟨g, 0, none⟩) (ph1 D S0 i).1.length cap := by
      rcases own_slice hC.arb.ar.rr with ⟨-, h2⟩ | ⟨g, cap, h2, -, -⟩
      · omega
      · exact ⟨g, cap, h2⟩
    have hrr := hC.arb.ar.rr
    rw [hrv] at hrr k13
    obtain ⟨o0, -, o2, -⟩ := riseL_get _ i r hr
    have q0 := (own_cell hrr o0).1
    have q2 := (own_cell hrr o2).1
    have hil2 : i < (ph1 D S0 i).1.length := by omega
    refine wp_cond_true (by rw [hK.rho (.tmp 22) _ rfl]; exact congrArg Value.bool (decide_eq_true (by omega))) ?_
    refine wp_skip ?_
    show Code.wp Yba.prog _ _ _ _
    replace hK := hK.sub (M := (8, .int .i64 S0.1.length) :: (7, .int .i64 (i : Nat)) :: (6, ptr b6) :: (5, ptr b5) :: (4, ptr b4) :: (3, ptr b3) :: []) ⟨rfl, rfl, rfl, rfl, rfl, rfl, trivial⟩
    refine wp_seq ?_
    refine wp_block ?_
    refine wp_region_noPanic ?_
    refine wp_region_peel' (fun w' => w'.cell? ⟨b6, 0, none⟩ = some (.func (.func 17) #[] #[ptr b3, ptr b5]) ∧ w'.cell? ⟨b3, 0, none⟩ = some (ptr arB) ∧ w'.cell? ⟨arB, 13, none⟩ = some (.slice (some ⟨g, 0, none⟩) (ph1 D S0 i).1.length cap) ∧ w'.cell? ⟨g, i * 4, none⟩ = some (.int .i32 r.p) ∧ w'.cell? ⟨g, i * 4 + 2, none⟩ = some (.int .i32 r.cnt)) (by simp) (by kernel_rfl) (by kernel_rfl) (by kernel_rfl) ?_
    have hS0 : (fun w' : World => w'.cell? ⟨b6, 0, none⟩ = some (.func (.func 17) #[] #[ptr b3, ptr b5]) ∧ w'.cell? ⟨b3, 0, none⟩ = some (ptr arB) ∧ w'.cell? ⟨arB, 13, none⟩ = some (.slice (some ⟨g, 0, none⟩) (ph1 D S0 i).1.length cap) ∧ w'.cell? ⟨g, i * 4, none⟩ = some (.int .i32 r.p) ∧ w'.cell? ⟨g, i * 4 + 2, none⟩ = some (.int .i32 r.cnt)) w.drew := ⟨hC.cl.c6, hC.cl.c3, k13, q0, q2⟩
    refine kt hK (i := 0) 25 rfl (by kernel_rfl) (by kernel_rfl) (by kernel_rfl) (fun _ _ _ h => h) hS0 rfl (by decide) rfl (fun ρ hρ w' hw' => r_ld82 _ rfl (hρ _ _ rfl) hw'.1) ?_
    clear hK a; intro a hK
    refine kt hK (i := 1) 26 rfl (by kernel_rfl) (by kernel_rfl) (by kernel_rfl) (fun _ _ _ h => h) hS0 rfl (by decide) rfl (fun ρ hρ w' hw' => r_ld51 _ rfl (hρ _ _ rfl) hw'.2.1) ?_
    clear hK a; intro a hK
    refine kt hK (i := 2) 27 rfl (by kernel_rfl) (by kernel_rfl) (by kernel_rfl) (fun _ _ _ h => h) hS0 rfl (by decide) rfl (fun ρ hρ w' hw' => r_nil _ rfl (hρ _ _ rfl)) ?_
    clear hK a; intro a hK
    refine kt hK (i := 3) 28 rfl (by kernel_rfl) (by kernel_rfl) (by kernel_rfl) (fun _ _ _ h => h) hS0 rfl (by decide) rfl (fun ρ hρ w' hw' => r_fo56_9 _ rfl (hρ _ _ rfl)) ?_
    clear hK a; intro a hK
    refine kt hK (i := 4) 29 rfl (by kernel_rfl) (by kernel_rfl) (by kernel_rfl) (fun _ _ _ h => h) hS0 rfl (by decide) rfl (fun ρ hρ w' hw' => r_ld41 _ rfl (hρ _ _ rfl) hw'.2.2.1) ?_
    clear hK a; intro a hK
    refine kt hK (i := 5) 30 rfl (by kernel_rfl) (by kernel_rfl) (by kernel_rfl) (fun _ _ _ h => h) hS0 rfl (by decide) rfl (fun ρ hρ w' hw' => r_mv _ rfl (hρ _ _ rfl)) ?_
    clear hK a; intro a hK
    refine kt hK (i := 6) 31 rfl (by kernel_rfl) (by kernel_rfl) (by kernel_rfl) (fun _ _ _ h => h) hS0 rfl (by decide) rfl (fun ρ hρ w' hw' => r_ix41z _ _ rfl hil2 (hρ _ _ rfl) (hρ _ _ rfl)) ?_
    clear hK a; intro a hK
    refine kt hK (i := 7) 32 rfl (by kernel_rfl) (by kernel_rfl) (by kernel_rfl) (fun _ _ _ h => h) hS0 rfl (by decide) rfl (fun ρ hρ w' hw' => r_fa46_0 _ rfl (hρ _ _ rfl)) ?_
    clear hK a; intro a hK
    refine kt hK (i := 8) 33 rfl (by kernel_rfl) (by kernel_rfl) (by kernel_rfl) (fun _ _ _ h => h) hS0 rfl (by decide) rfl (fun ρ hρ w' hw' => r_ld21 _ rfl (hρ _ _ rfl) hw'.2.2.2.1) ?_
    clear hK a; intro a hK
    refine kt hK (i := 9) 34 rfl (by kernel_rfl) (by kernel_rfl) (by kernel_rfl) (fun _ _ _ h => h) hS0 rfl (by decide) rfl (fun ρ hρ w' hw' => r_ld51 _ rfl (hρ _ _ rfl) hw'.2.1) ?_
    clear hK a; intro a hK
    refine kt hK (i := 10) 35 rfl (by kernel_rfl) (by kernel_rfl) (by kernel_rfl) (fun _ _ _ h => h) hS0 rfl (by decide) rfl (fun ρ hρ w' hw' => r_nil _ rfl (hρ _ _ rfl)) ?_
    clear hK a; intro a hK
    refine kt hK (i := 11) 36 rfl (by kernel_rfl) (by kernel_rfl) (by kernel_rfl) (fun _ _ _ h => h) hS0 rfl (by decide) rfl (fun ρ hρ w' hw' => r_fo56_9 _ rfl (hρ _ _ rfl)) ?_
    clear hK a; intro a hK
    refine kt hK (i := 12) 37 rfl (by kernel_rfl) (by kernel_rfl) (by kernel_rfl) (fun _ _ _ h => h) hS0 rfl (by decide) rfl (fun ρ hρ w' hw' => r_ld41 _ rfl (hρ _ _ rfl) hw'.2.2.1) ?_
    clear hK a; intro a hK
    refine kt hK (i := 13) 38 rfl (by kernel_rfl) (by kernel_rfl) (by kernel_rfl) (fun _ _ _ h => h) hS0 rfl (by decide) rfl (fun ρ hρ w' hw' => r_mv _ rfl (hρ _ _ rfl)) ?_
    clear hK a; intro a hK
    refine kt hK (i := 14) 39 rfl (by kernel_rfl) (by kernel_rfl) (by kernel_rfl) (fun _ _ _ h => h) hS0 rfl (by decide) rfl (fun ρ hρ w' hw' => r_ix41z _ _ rfl hil2 (hρ _ _ rfl) (hρ _ _ rfl)) ?_
    clear hK a; intro a hK
    refine kt hK (i := 15) 40 rfl (by kernel_rfl) (by kernel_rfl) (by kernel_rfl) (fun _ _ _ h => h) hS0 rfl (by decide) rfl (fun ρ hρ w' hw' => r_fa46_2 _ rfl (hρ _ _ rfl)) ?_
    clear hK a; intro a hK
    refine kt hK (i := 16) 41 rfl (by kernel_rfl) (by kernel_rfl) (by kernel_rfl) (fun _ _ _ h => h) hS0 rfl (by decide) rfl (fun ρ hρ w' hw' => r_ld21 _ rfl (hρ _ _ rfl) hw'.2.2.2.2) ?_
    clear hK a; intro a hK
    refine wpAnyH_done (by kernel_rfl) ?_ _
    have hCd := hC.below hgF (Below.refl w.heap.size w).drew
    refine peel_call hK 42 rfl (by decide) (fun ρ hρ => r_callv17 _ _ _ rfl (hρ _ _ rfl) (hρ _ _ rfl) (hρ _ _ rfl)) (check_any D hD F B0 arB gB hgF st (ph1 D S0 i) r.p hrp r.cnt w.drew hCd.arb hCd.gv b3 b5 hCd.cl.l3 hCd.cl.l5 hCd.cl.c3 hCd.cl.c5 hCd.cl.t3 hCd.cl.t5) ?_
    rintro e w2 ⟨rfl, st2, hA2, hSt2⟩
    refine ⟨_, rfl, ?_⟩
    clear hK a; intro a hK
    rw [← hnx] at hA2
    have hC2 := hCd.step (S' := ph1 D S0 (i + 1)) hgF hA2 hSt2
    show Code.wp Yba.prog _ _ _ _
    refine wp_region_lit ?_
    refine kl hK 23 rfl (by decide) rfl (fun ρ hρ => r_mv _ rfl (hρ _ _ rfl)) ?_
    clear hK a; intro a hK
    refine kl hK 24 rfl (by decide) rfl (fun ρ hρ => r_inc3 _ rfl (by omega) (hρ _ _ rfl) (hρ _ _ rfl)) ?_
    clear hK a; intro a hK
    refine kl hK 7 rfl (by decide) rfl (fun ρ hρ => r_as _ rfl (hρ _ _ rfl)) ?_
    clear hK a; intro a hK
    refine wpList_nil ?_
    exact hR (S0.1.length - (i + 1)) _ _ (by omega) ⟨i + 1, st2, hil, rfl, hK.sub ⟨rfl, rfl, rfl, rfl, rfl, rfl, trivial⟩, hC2⟩
  · have hle : i = S0.1.length := by omega
    refine wp_cond_false (by rw [hK.rho (.tmp 22) _ rfl]; exact congrArg Value.bool (decide_eq_false (by omega))) ?_
    refine wp_exit ?_
    subst hle
    exact hKK _ _ st (hK.sub ⟨rfl, rfl, rfl, rfl, trivial⟩) hC

set_option maxRecDepth 100000 in
set_option maxHeartbeats 1000000 in
theorem m9c (D : PD) (hD : D.Fine) (F : Nat → Prop) (B0 arB gB : Nat) (hgF : F gB) (b3 b4 b5 b6 : Nat) (st0 : ST) (w0 : World) (S1 : SQ) (l : Nat) (la : Option Addr) (lc : Nat) (a' : Option Addr) (c' : Nat) (hE : ∀ k e, (D.EL l)[k]? = some e → ∃ b, a' = some ⟨b, D.eo l * 2, none⟩ ∧ b < w0.heap.size ∧ ¬ TSet arB st0 b ∧ w0.cell? ⟨b, (D.eo l + k) * 2, none⟩ = some (.int .i32 e.1) ∧ w0.cell? ⟨b, (D.eo l + k) * 2 + 1, none⟩ = some (.int .i32 e.2)) (Q : Exit → Act → World → Prop) (K : Act → World → Prop) (hKK : ∀ a w st, Kn 78 ((50, .int .i64 (l : Nat)) :: (49, .int .i64 D.ll) :: (48, .slice la D.ll lc) :: (9, .func (.func 20) #[] #[ptr b4, ptr b6]) :: (6, ptr b6) :: (5, ptr b5) :: (4, ptr b4) :: (3, ptr b3) :: []) a → CE D F B0 arB gB b3 b4 b5 b6 st0 w0 (chks D S1 (D.prs (l + 1))) st w → K a w) (a : Act) (w : World) (st1 : ST) (hK : Kn 78 ((59, .int .i64 (0 : Nat)) :: (58, .int .i64 (D.EL l).length) :: (57, .slice a' (D.EL l).length c') :: (50, .int .i64 (l : Nat)) :: (49, .int .i64 D.ll) :: (48, .slice la D.ll lc) :: (9, .func (.func 20) #[] #[ptr b4, ptr b6]) :: (6, ptr b6) :: (5, ptr b5) :: (4, ptr b4) :: (3, ptr b3) :: []) a) (hC : CE D F B0 arB gB b3 b4 b5 b6 st0 w0 (chks D S1 (D.prs l)) st1 w) :
    Code.wp Yba.prog (nav [1, 1, 1, 1, 0, 1, 0, 0, 1, 1, 0, 0, 1, 1] (Yba.f9.body.getD .skip)) (Exit.then K Q) a w := by
  have hN := hD.N20
  have hlen := EL_len (D := D) l
  refine loop_n K (fun n a w => ∃ k st, k ≤ (D.EL l).length ∧ n = (D.EL l).length - k ∧ Kn 78 ((59, .int .i64 (k : Nat)) :: (58, .int .i64 (D.EL l).length) :: (57, .slice a' (D.EL l).length c') :: (50, .int .i64 (l : Nat)) :: (49, .int .i64 D.ll) :: (48, .slice la D.ll lc) :: (9, .func (.func 20) #[] #[ptr b4, ptr b6]) :: (6, ptr b6) :: (5, ptr b5) :: (4, ptr b4) :: (3, ptr b3) :: []) a ∧ CE D F B0 arB gB b3 b4 b5 b6 st0 w0 (chks D S1 ((D.ent l ++ (D.EL l).take k).map (·.1))) st w) ⟨0, st1, Nat.zero_le _, rfl, hK, by rw [List.take_zero, List.append_nil]; exact hC⟩ ?_
  clear hK hC a w st1
  rintro n a w R ⟨k, st, hk, hn, hK, hC⟩ hR
  refine wp_seq ?_
  refine wp_region_lit ?_
  refine kl hK 60 rfl (by decide) rfl (fun ρ hρ => r_lss3 _ _ rfl (hρ _ _ rfl) (hρ _ _ rfl)) ?_
  clear hK a; intro a hK
  refine wpList_nil ?_
  show Code.wp Yba.prog _ _ _ _
  refine wp_seq ?_
  by_cases hkl : k < (D.EL l).length
  · obtain ⟨e, he⟩ : ∃ e, (D.EL l)[k]? = some e := ⟨_, List.getElem?_eq_getElem hkl⟩
    obtain ⟨b, ha, hlt, hnT, c0, c1⟩ := hE k e he
    subst ha
    have hbk := hC.fix hlt hnT
    replace c0 := (World.cell?_of_block (a := ⟨b, (D.eo l + k) * 2, none⟩) hbk).trans c0
    replace c1 := (World.cell?_of_block (a := ⟨b, (D.eo l + k) * 2 + 1, none⟩) hbk).trans c1
    rw [Nat.add_mul] at c0 c1
    have hep : e.1 < D.N := (EL_mem (List.mem_of_getElem? he)).1
    refine wp_cond_true (by rw [hK.rho (.tmp 60) _ rfl]; exact congrArg Value.bool (decide_eq_true (by omega))) ?_
    refine wp_skip ?_
    show Code.wp Yba.prog _ _ _ _
    refine wp_seq ?_
    refine wp_block ?_
    refine wp_seq ?_
    refine wp_region_lit ?_
    refine kl hK 61 rfl (by decide) rfl (fun ρ hρ => r_ix31 _ _ rfl hkl (hρ _ _ rfl) (hρ _ _ rfl)) ?_
    clear hK a; intro a hK
    refine kl hK 62 rfl (by decide) rfl (fun ρ hρ => r_ld38 _ rfl (hρ _ _ rfl) c0 c1) ?_
    clear hK a; intro a hK
    refine kl hK 13 rfl (by decide) rfl (fun ρ hρ => r_al38 rfl) ?_
    clear hK a; intro a hK
    refine kst hK rfl rfl (fun ρ hρ => r_st38 (w := w) _ _ rfl (hρ _ _ rfl) (hρ _ _ rfl)) ?_
    refine wpList_nil ?_
    show Code.wp Yba.prog _ _ _ _
    have n0 := cell_new w #[.int .i32 e.1, .int .i32 e.2] 38 (i := 0) rfl
    have hC1 := hC.below hgF (bel_alloc (Below.refl w.heap.size w) (.cells #[.int .i32 e.1, .int .i32 e.2] 38))
    generalize w.alloc (.cells #[.int .i32 e.1, .int .i32 e.2] 38) = w1 at *
    generalize w.heap.size = eB at *
    refine wp_region_lit ?_
    refine kl hK 63 rfl (by decide) rfl (fun ρ hρ => r_mv _ rfl (hρ _ _ rfl)) ?_
    clear hK a; intro a hK
    refine kl hK 64 rfl (by decide) rfl (fun ρ hρ => r_fo38_0 _ rfl (hρ _ _ rfl)) ?_
    clear hK a; intro a hK
    refine kl hK 65 rfl (by decide) rfl (fun ρ hρ => r_ld21 _ rfl (hρ _ _ rfl) n0) ?_
    clear hK a; intro a hK
    refine kc hK 66 rfl (by decide) rfl (fun ρ hρ => r_callv20 _ _ rfl (hρ _ _ rfl) (hρ _ _ rfl)) (held_any D hD F B0 arB gB hgF st _ e.1 hep w1 hC1.arb hC1.gv b3 b4 b5 b6 hC1.cl) ?_
    rintro ee w2 ⟨rfl, st2, hA2, hSt2⟩
    refine ⟨_, rfl, ?_⟩
    clear hK a; intro a hK
    refine wpList_nil ?_
    have hnx : chks D S1 ((D.ent l ++ (D.EL l).take (k + 1)).map (·.1)) = chk D (chks D S1 ((D.ent l ++ (D.EL l).take k).map (·.1))) e.1 (D.lkp e.1).1 := by
      rw [List.take_add_one, he]
      simp only [Option.toList_some, ← List.append_assoc, List.map_append, List.map_cons, List.map_nil]
      rw [chks_app]
      rfl
    rw [← hnx] at hA2
    have hC2 := hC1.step hgF hA2 hSt2
    show Code.wp Yba.prog _ _ _ _
    refine wp_region_lit ?_
    refine kl hK 67 rfl (by decide) rfl (fun ρ hρ => r_inc3 _ rfl (by omega) (hρ _ _ rfl) (hρ _ _ rfl)) ?_
    clear hK a; intro a hK
    refine kl hK 59 rfl (by decide) rfl (fun ρ hρ => r_mv _ rfl (hρ _ _ rfl)) ?_
    clear hK a; intro a hK
    refine wpList_nil ?_
    exact hR ((D.EL l).length - (k + 1)) _ _ (by omega) ⟨k + 1, st2, hkl, rfl, hK.sub ⟨rfl, rfl, rfl, rfl, rfl, rfl, rfl, rfl, rfl, rfl, rfl, trivial⟩, hC2⟩
  · have hle : k = (D.EL l).length := by omega
    refine wp_cond_false (by rw [hK.rho (.tmp 60) _ rfl]; exact congrArg Value.bool (decide_eq_false (by omega))) ?_
    refine wp_exit ?_
    subst hle
    rw [List.take_length] at hC
    exact hKK _ _ st (hK.sub ⟨rfl, rfl, rfl, rfl, rfl, rfl, rfl, rfl, trivial⟩) hC

set_option maxRecDepth 100000 in
set_option maxHeartbeats 1000000 in
theorem m9b (D : PD) (hD : D.Fine) (F : Nat → Prop) (B0 arB gB : Nat) (hgF : F gB) (b3 b4 b5 b6 : Nat) (st0 : ST) (w0 : World) (S1 : SQ) (la : Option Addr) (lc : Nat) (hL : ∀ l, l < D.ll → ∃ b, la = some ⟨b, 0, none⟩ ∧ b < w0.heap.size ∧ ¬ TSet arB st0 b ∧ w0.cell? ⟨b, l * 2, none⟩ = some (.int .i32 (D.eo l)) ∧ w0.cell? ⟨b, l * 2 + 1, none⟩ = some (.int .i32 (D.eo (l + 1)))) (Q : Exit → Act → World → Prop) (K : Act → World → Prop) (hKK : ∀ a w st, Kn 78 ((9, .func (.func 20) #[] #[ptr b4, ptr b6]) :: (6, ptr b6) :: (5, ptr b5) :: (4, ptr b4) :: (3, ptr b3) :: []) a → CE D F B0 arB gB b3 b4 b5 b6 st0 w0 (chks D S1 (D.prs D.ll)) st w → K a w) (a : Act) (w : World) (st1 : ST) (hK : Kn 78 ((50, .int .i64 (0 : Nat)) :: (49, .int .i64 D.ll) :: (48, .slice la D.ll lc) :: (9, .func (.func 20) #[] #[ptr b4, ptr b6]) :: (6, ptr b6) :: (5, ptr b5) :: (4, ptr b4) :: (3, ptr b3) :: []) a) (hC : CE D F B0 arB gB b3 b4 b5 b6 st0 w0 S1 st1 w) :
    Code.wp Yba.prog (nav [1, 1, 1, 1, 0, 1] (Yba.f9.body.getD .skip)) (Exit.then K Q) a w := by
  have hN := hD.N20
  have hll := hD.ll
  have heo := eo_bound hN D.ll
  refine loop_n K (fun n a w => ∃ l st, l ≤ D.ll ∧ n = D.ll - l ∧ Kn 78 ((50, .int .i64 (l : Nat)) :: (49, .int .i64 D.ll) :: (48, .slice la D.ll lc) :: (9, .func (.func 20) #[] #[ptr b4, ptr b6]) :: (6, ptr b6) :: (5, ptr b5) :: (4, ptr b4) :: (3, ptr b3) :: []) a ∧ CE D F B0 arB gB b3 b4 b5 b6 st0 w0 (chks D S1 (D.prs l)) st w) ⟨0, st1, Nat.zero_le _, rfl, hK, hC⟩ ?_
  clear hK hC a w st1
  rintro n a w R ⟨l, st, hl, hn, hK, hC⟩ hR
  refine wp_seq ?_
  refine wp_region_lit ?_
  refine kl hK 51 rfl (by decide) rfl (fun ρ hρ => r_lss3 _ _ rfl (hρ _ _ rfl) (hρ _ _ rfl)) ?_
  clear hK a; intro a hK
  refine wpList_nil ?_
  show Code.wp Yba.prog _ _ _ _
  refine wp_seq ?_
  by_cases hll2 : l < D.ll
  · obtain ⟨b, ha, hlt, hnT, k0, k1⟩ := hL l hll2
    subst ha
    have hbk := hC.fix hlt hnT
    replace k0 := (World.cell?_of_block (a := ⟨b, l * 2, none⟩) hbk).trans k0
    replace k1 := (World.cell?_of_block (a := ⟨b, l * 2 + 1, none⟩) hbk).trans k1
    have hle1 := eo_le (D := D) (show l ≤ l + 1 by omega)
    have hle2 := eo_le (D := D) (show l + 1 ≤ D.ll by omega)
    refine wp_cond_true (by rw [hK.rho (.tmp 51) _ rfl]; exact congrArg Value.bool (decide_eq_true (by omega))) ?_
    refine wp_skip ?_
    show Code.wp Yba.prog _ _ _ _
    refine wp_seq ?_
    refine wp_block ?_
    refine wp_seq ?_
    refine wp_region_lit ?_
    refine kl hK 52 rfl (by decide) rfl (fun ρ hρ => r_ix32z _ _ rfl hll2 (hρ _ _ rfl) (hρ _ _ rfl)) ?_
    clear hK a; intro a hK
    refine kl hK 53 rfl (by decide) rfl (fun ρ hρ => r_ld40 _ rfl (hρ _ _ rfl) k0 k1) ?_
    clear hK a; intro a hK
    refine kl hK 11 rfl (by decide) rfl (fun ρ hρ => r_al40 rfl) ?_
    clear hK a; intro a hK
    refine kst hK rfl rfl (fun ρ hρ => r_st40 (w := w) _ _ rfl (hρ _ _ rfl) (hρ _ _ rfl)) ?_
    refine wpList_nil ?_
    show Code.wp Yba.prog _ _ _ _
    have n0 := cell_new w #[.int .i32 (D.eo l), .int .i32 (D.eo (l + 1))] 40 (i := 0) rfl
    have n1 := cell_new w #[.int .i32 (D.eo l), .int .i32 (D.eo (l + 1))] 40 (i := 1) rfl
    have hC1 := hC.below hgF (bel_alloc (Below.refl w.heap.size w) (.cells #[.int .i32 (D.eo l), .int .i32 (D.eo (l + 1))] 40))
    generalize w.alloc (.cells #[.int .i32 (D.eo l), .int .i32 (D.eo (l + 1))] 40) = w1 at *
    generalize w.heap.size = lB at *
    obtain ⟨d0, -⟩ := hC1.cl.cc
    obtain ⟨ea, ec, e1, he1, he2, he3, e5⟩ := hC1.arb.ar.ck.ent
    have u0 := hC1.arb.ar.ck.u0
    refine wp_seq ?_
    refine wp_region_lit ?_
    refine kl hK 54 rfl (by decide) rfl (fun ρ hρ => r_fo58_0 _ rfl (hρ _ _ rfl)) ?_
    clear hK a; intro a hK
    refine kl hK 55 rfl (by decide) rfl (fun ρ hρ => r_ld51 _ rfl (hρ _ _ rfl) d0) ?_
    clear hK a; intro a hK
    refine kl hK 56 rfl (by decide) rfl (fun ρ hρ => r_ld40z _ rfl (hρ _ _ rfl) n0 n1) ?_
    clear hK a; intro a hK
    refine kc hK 57 rfl (by decide) rfl (fun ρ hρ => r_call23 _ _ rfl (hρ _ _ rfl) (hρ _ _ rfl) (hρ _ _ rfl)) (run_gen arB ea (D.eo D.ll) ec (D.eo l) (D.eo (l + 1)) w1 hC1.arb.ar.arow u0 e1 he3 hle1 hle2 he1 he2 (by omega)) ?_
    rintro e w2 ⟨⟨a', c', rfl, ha'⟩, hb2⟩
    refine ⟨_, rfl, ?_⟩
    clear hK a; intro a hK
    rw [show D.eo (l + 1) - D.eo l = (D.EL l).length by rw [eo_succ]; omega] at hK
    refine kl hK 58 rfl (by decide) rfl (fun ρ hρ => r_len31 _ rfl (hρ _ _ rfl)) ?_
    clear hK a; intro a hK
    refine kl hK 59 rfl (by decide) rfl (fun ρ hρ => r_mv _ rfl (hρ _ _ rfl)) ?_
    clear hK a; intro a hK
    refine wpList_nil ?_
    show Code.wp Yba.prog _ _ _ _
    have hC2 := hC1.below hgF hb2
    have hfl : ∀ k e, (D.EL l)[k]? = some e → ∃ b, a' = some ⟨b, D.eo l * 2, none⟩ ∧ b < w2.heap.size ∧ ¬ TSet arB st b ∧ w2.cell? ⟨b, (D.eo l + k) * 2, none⟩ = some (.int .i32 e.1) ∧ w2.cell? ⟨b, (D.eo l + k) * 2 + 1, none⟩ = some (.int .i32 e.2) := fun k e he => by
      have hk : k < (D.EL l).length := (List.getElem?_eq_some_iff.1 he).1
      obtain ⟨b, f1, fF, f2, f3, f4⟩ := e5 (D.eo l + k) e ((ent_at hll2 hk).trans he)
      obtain ⟨b', g1, g2⟩ := ha' (by rw [eo_succ]; omega)
      rw [f1] at g1
      cases g1
      exact ⟨b, g2, Nat.lt_of_lt_of_le f2 hb2.size, F_not hC1.arb fF, (hb2.cell (p := ⟨b, (D.eo l + k) * 2, none⟩) f2).trans f3, (hb2.cell (p := ⟨b, (D.eo l + k) * 2 + 1, none⟩) f2).trans f4⟩
    have hC2' : CE D F B0 arB gB b3 b4 b5 b6 st w2 (chks D S1 (D.prs l)) st w2 := ⟨hC2.arb, Step.refl, hC2.cl, hC2.gv⟩
    refine wp_then ?_
    refine m9c D hD F B0 arB gB hgF b3 b4 b5 b6 st w2 S1 l _ lc a' c' hfl _ _ ?_ a w2 st (hK.sub ⟨rfl, rfl, rfl, rfl, rfl, rfl, rfl, rfl, rfl, rfl, rfl, trivial⟩) hC2'
    clear hK a
    intro a w3 st3 hK hC3'
    have hC3 : CE D F B0 arB gB b3 b4 b5 b6 st0 w0 (chks D S1 (D.prs (l + 1))) st3 w3 := ⟨hC3'.arb, hC2.stp.trans hC3'.stp, hC3'.cl, hC3'.gv⟩
    show Code.wp Yba.prog _ _ _ _
    refine wp_region_lit ?_
    refine kl hK 68 rfl (by decide) rfl (fun ρ hρ => r_inc3 _ rfl (by omega) (hρ _ _ rfl) (hρ _ _ rfl)) ?_
    clear hK a; intro a hK
    refine kl hK 50 rfl (by decide) rfl (fun ρ hρ => r_mv _ rfl (hρ _ _ rfl)) ?_
    clear hK a; intro a hK
    refine wpList_nil ?_
    exact hR (D.ll - (l + 1)) _ _ (by omega) ⟨l + 1, st3, hll2, rfl, hK.sub ⟨rfl, rfl, rfl, rfl, rfl, rfl, rfl, rfl, trivial⟩, hC3⟩
  · have hle : l = D.ll := by omega
    refine wp_cond_false (by rw [hK.rho (.tmp 51) _ rfl]; exact congrArg Value.bool (decide_eq_false (by omega))) ?_
    refine wp_exit ?_
    subst hle
    exact hKK _ _ st (hK.sub ⟨rfl, rfl, rfl, rfl, rfl, trivial⟩) hC

set_option maxRecDepth 100000 in
set_option maxHeartbeats 1000000 in
theorem checkEntries_any (D : PD) (hD : D.Fine) (F : Nat → Prop) (B0 arB gB : Nat) (hgF : F gB) (st : ST) (S : SQ) (w0 : World) (hA : ARB D F B0 arB st S.1 S.2 w0) (hG : GV D arB w0 gB) :
    Calls Yba.prog 9 #[ptr arB, Value.agg (D.clk arB), ptr gB] w0 fun e w' => e = .returned (.tuple #[]) ∧ ∃ st', ARB D F B0 arB st' (fin D S).1 (fin D S).2 w' ∧ Step arB st w0 st' w' := by
  refine calls_of_wp (c := Yba.f9.body.getD .skip) Yba.func9 (by kernel_rfl) ?_
  rw [Yba.ntmps9]
  have hK := kn_call [ptr arB, Value.agg (D.clk arB), ptr gB] 78 (L := [(2, ptr gB), (1, Value.agg (D.clk arB)), (0, ptr arB)]) ⟨rfl, rfl, rfl, trivial⟩ (by simp)
  generalize ({ tmps := [ptr arB, Value.agg (D.clk arB), ptr gB].toArray ++ Array.replicate (78 - [ptr arB, Value.agg (D.clk arB), ptr gB].toArray.size) undef, defers := [] } : Act) = a at *
  have hN := hD.N20
  have hll := hD.ll
  have hlen := hA.wf.len
  have hT4 : Touch (fun _ => False) w0 ((((w0.alloc (.cells #[ptr arB] 51)).alloc (.cells (D.clk arB) 58)).alloc (.cells #[ptr gB] 59)).alloc (.cells #[(.func (.func 17) #[] #[ptr w0.heap.size, ptr ((w0.alloc (.cells #[ptr arB] 51)).alloc (.cells (D.clk arB) 58)).heap.size])] 82)) := ((((Touch.refl _ w0).alloc _).alloc _).alloc _).alloc _
  have s1 := alloc_size w0 (.cells #[ptr arB] 51)
  have s2 := alloc_size (w0.alloc (.cells #[ptr arB] 51)) (.cells (D.clk arB) 58)
  have s3 := alloc_size ((w0.alloc (.cells #[ptr arB] 51)).alloc (.cells (D.clk arB) 58)) (.cells #[ptr gB] 59)
  have s4 := alloc_size (((w0.alloc (.cells #[ptr arB] 51)).alloc (.cells (D.clk arB) 58)).alloc (.cells #[ptr gB] 59)) (.cells #[(.func (.func 17) #[] #[ptr w0.heap.size, ptr ((w0.alloc (.cells #[ptr arB] 51)).alloc (.cells (D.clk arB) 58)).heap.size])] 82)
  have x3 := cell_new w0 #[ptr arB] 51 (i := 0) rfl
  have x4 := clk_new D arB (w0.alloc (.cells #[ptr arB] 51))
  have x5 := cell_new ((w0.alloc (.cells #[ptr arB] 51)).alloc (.cells (D.clk arB) 58)) #[ptr gB] 59 (i := 0) rfl
  have x6 := cell_new (((w0.alloc (.cells #[ptr arB] 51)).alloc (.cells (D.clk arB) 58)).alloc (.cells #[ptr gB] 59)) #[(.func (.func 17) #[] #[ptr w0.heap.size, ptr ((w0.alloc (.cells #[ptr arB] 51)).alloc (.cells (D.clk arB) 58)).heap.size])] 82 (i := 0) rfl
  have H1 : ∀ b, b < (w0.alloc (.cells #[ptr arB] 51)).heap.size → ((w0.alloc (.cells #[ptr arB] 51)).alloc (.cells (D.clk arB) 58)).heap[b]? = (w0.alloc (.cells #[ptr arB] 51)).heap[b]? := fun b hb => Below.heap_alloc _ _ _ hb
  have H2 : ∀ b, b < ((w0.alloc (.cells #[ptr arB] 51)).alloc (.cells (D.clk arB) 58)).heap.size → (((w0.alloc (.cells #[ptr arB] 51)).alloc (.cells (D.clk arB) 58)).alloc (.cells #[ptr gB] 59)).heap[b]? = ((w0.alloc (.cells #[ptr arB] 51)).alloc (.cells (D.clk arB) 58)).heap[b]? := fun b hb => Below.heap_alloc _ _ _ hb
  have H3 : ∀ b, b < (((w0.alloc (.cells #[ptr arB] 51)).alloc (.cells (D.clk arB) 58)).alloc (.cells #[ptr gB] 59)).heap.size → ((((w0.alloc (.cells #[ptr arB] 51)).alloc (.cells (D.clk arB) 58)).alloc (.cells #[ptr gB] 59)).alloc (.cells #[(.func (.func 17) #[] #[ptr w0.heap.size, ptr ((w0.alloc (.cells #[ptr arB] 51)).alloc (.cells (D.clk arB) 58)).heap.size])] 82)).heap[b]? = (((w0.alloc (.cells #[ptr arB] 51)).alloc (.cells (D.clk arB) 58)).alloc (.cells #[ptr gB] 59)).heap[b]? := fun b hb => Below.heap_alloc _ _ _ hb
  have nT : ∀ b, w0.heap.size ≤ b → ¬ TSet arB st b := fun b hb h => by have := hA.ar.tlt b h; omega
  have hCL : CL D arB gB w0.heap.size (w0.alloc (.cells #[ptr arB] 51)).heap.size ((w0.alloc (.cells #[ptr arB] 51)).alloc (.cells (D.clk arB) 58)).heap.size (((w0.alloc (.cells #[ptr arB] 51)).alloc (.cells (D.clk arB) 58)).alloc (.cells #[ptr gB] 59)).heap.size st ((((w0.alloc (.cells #[ptr arB] 51)).alloc (.cells (D.clk arB) 58)).alloc (.cells #[ptr gB] 59)).alloc (.cells #[(.func (.func 17) #[] #[ptr w0.heap.size, ptr ((w0.alloc (.cells #[ptr arB] 51)).alloc (.cells (D.clk arB) 58)).heap.size])] 82)) :=
    ⟨by omega, by omega, by omega, by omega, (World.cell?_of_block (a := ⟨w0.heap.size, 0, none⟩) ((H3 w0.heap.size (by omega)).trans ((H2 w0.heap.size (by omega)).trans (H1 w0.heap.size (by omega))))).trans x3, (x4.of_block (H2 _ (by omega))).of_block (H3 _ (by omega)), (World.cell?_of_block (a := ⟨((w0.alloc (.cells #[ptr arB] 51)).alloc (.cells (D.clk arB) 58)).heap.size, 0, none⟩) (H3 ((w0.alloc (.cells #[ptr arB] 51)).alloc (.cells (D.clk arB) 58)).heap.size (by omega))).trans x5, x6, nT _ (by omega), nT _ (by omega), nT _ (by omega), nT _ (by omega)⟩
  have hCE : CE D F B0 arB gB w0.heap.size (w0.alloc (.cells #[ptr arB] 51)).heap.size ((w0.alloc (.cells #[ptr arB] 51)).alloc (.cells (D.clk arB) 58)).heap.size (((w0.alloc (.cells #[ptr arB] 51)).alloc (.cells (D.clk arB) 58)).alloc (.cells #[ptr gB] 59)).heap.size st ((((w0.alloc (.cells #[ptr arB] 51)).alloc (.cells (D.clk arB) 58)).alloc (.cells #[ptr gB] 59)).alloc (.cells #[(.func (.func 17) #[] #[ptr w0.heap.size, ptr ((w0.alloc (.cells #[ptr arB] 51)).alloc (.cells (D.clk arB) 58)).heap.size])] 82)) S st ((((w0.alloc (.cells #[ptr arB] 51)).alloc (.cells (D.clk arB) 58)).alloc (.cells #[ptr gB] 59)).alloc (.cells #[(.func (.func 17) #[] #[ptr w0.heap.size, ptr ((w0.alloc (.cells #[ptr arB] 51)).alloc (.cells (D.clk arB) 58)).heap.size])] 82)) := ⟨hA.below hT4.to_below, Step.refl, hCL, hG.step (hT4.block gB (hA.flt gB hgF) id)⟩
  have hSt4 : Step arB st w0 st ((((w0.alloc (.cells #[ptr arB] 51)).alloc (.cells (D.clk arB) 58)).alloc (.cells #[ptr gB] 59)).alloc (.cells #[(.func (.func 17) #[] #[ptr w0.heap.size, ptr ((w0.alloc (.cells #[ptr arB] 51)).alloc (.cells (D.clk arB) 58)).heap.size])] 82)) := Step.of_touch0 hT4
  conv => arg 2; whnf
  refine wp_seq ?_
  refine wp_region_lit ?_
  refine kl hK 3 rfl (by decide) rfl (fun ρ hρ => r_box51 _ rfl (hρ _ _ rfl)) ?_
  clear hK a; intro a hK
  refine kl hK 4 rfl (by decide) rfl (fun ρ hρ => r_box58 _ rfl (hρ _ _ rfl)) ?_
  clear hK a; intro a hK
  refine kl hK 5 rfl (by decide) rfl (fun ρ hρ => r_box59 _ rfl (hρ _ _ rfl)) ?_
  clear hK a; intro a hK
  refine wpList_nil ?_
  show Code.wp Yba.prog _ _ _ _
  refine wp_seq ?_
  refine wp_region_lit ?_
  refine kl hK 14 rfl (by decide) rfl (fun ρ hρ => r_mkf _ _ rfl (hρ _ _ rfl) (hρ _ _ rfl)) ?_
  clear hK a; intro a hK
  refine kl hK 6 rfl (by decide) rfl (fun ρ hρ => r_al82 rfl) ?_
  clear hK a; intro a hK
  refine kst hK rfl rfl (fun ρ hρ => r_st82 (w := (((w0.alloc (.cells #[ptr arB] 51)).alloc (.cells (D.clk arB) 58)).alloc (.cells #[ptr gB] 59))) _ _ rfl (hρ _ _ rfl) (hρ _ _ rfl)) ?_
  refine wpList_nil ?_
  show Code.wp Yba.prog _ _ _ ((((w0.alloc (.cells #[ptr arB] 51)).alloc (.cells (D.clk arB) 58)).alloc (.cells #[ptr gB] 59)).alloc (.cells #[(.func (.func 17) #[] #[ptr w0.heap.size, ptr ((w0.alloc (.cells #[ptr arB] 51)).alloc (.cells (D.clk arB) 58)).heap.size])] 82))
  replace hK := hK.sub (M := (6, ptr (((w0.alloc (.cells #[ptr arB] 51)).alloc (.cells (D.clk arB) 58)).alloc (.cells #[ptr gB] 59)).heap.size) :: (5, ptr ((w0.alloc (.cells #[ptr arB] 51)).alloc (.cells (D.clk arB) 58)).heap.size) :: (4, ptr (w0.alloc (.cells #[ptr arB] 51)).heap.size) :: (3, ptr w0.heap.size) :: []) ⟨rfl, rfl, rfl, rfl, trivial⟩
  clear x3 x4 x5 x6 H1 H2 H3 hCL
  generalize ((((w0.alloc (.cells #[ptr arB] 51)).alloc (.cells (D.clk arB) 58)).alloc (.cells #[ptr gB] 59)).alloc (.cells #[(.func (.func 17) #[] #[ptr w0.heap.size, ptr ((w0.alloc (.cells #[ptr arB] 51)).alloc (.cells (D.clk arB) 58)).heap.size])] 82)) = w4 at *
  generalize (((w0.alloc (.cells #[ptr arB] 51)).alloc (.cells (D.clk arB) 58)).alloc (.cells #[ptr gB] 59)).heap.size = b6 at *
  generalize ((w0.alloc (.cells #[ptr arB] 51)).alloc (.cells (D.clk arB) 58)).heap.size = b5 at *
  generalize (w0.alloc (.cells #[ptr arB] 51)).heap.size = b4 at *
  generalize w0.heap.size = b3 at *
  obtain ⟨k13, -⟩ := hCE.arb.ar.cells
  obtain ⟨ra, rc, hrv⟩ : ∃ ra rc, st.rV = .slice ra S.1.length rc := by
    rcases own_slice hCE.arb.ar.rr with ⟨h1, h2⟩ | ⟨g, cap, h2, -, -⟩
    · exact ⟨none, 0, by rw [h2]; exact h1⟩
    · exact ⟨_, _, h2⟩
  rw [hrv] at k13
  have c3 := hCE.cl.c3
  refine wp_seq ?_
  refine wp_seq ?_
  refine wp_region_quiet_lit (by kernel_rfl) (by kernel_rfl) ?_
  refine kq hK 15 rfl (by decide) rfl (fun ρ hρ w' hw' => r_ld51 _ rfl (hρ _ _ rfl) (by obtain ⟨n, rfl⟩ := hw'; exact c3)) ?_
  clear hK a; intro a hK
  refine kq hK 16 rfl (by decide) rfl (fun ρ hρ w' hw' => r_nil _ rfl (hρ _ _ rfl)) ?_
  clear hK a; intro a hK
  refine kq hK 17 rfl (by decide) rfl (fun ρ hρ w' hw' => r_fo56_9 _ rfl (hρ _ _ rfl)) ?_
  clear hK a; intro a hK
  refine kq hK 18 rfl (by decide) rfl (fun ρ hρ w' hw' => r_ld41 _ rfl (hρ _ _ rfl) (by obtain ⟨n, rfl⟩ := hw'; exact k13)) ?_
  clear hK a; intro a hK
  refine kq hK 19 rfl (by decide) rfl (fun ρ hρ w' hw' => r_len41 _ rfl (hρ _ _ rfl)) ?_
  clear hK a; intro a hK
  refine kq hK 7 rfl (by decide) rfl (fun ρ hρ w' hw' => r_as _ rfl (hρ _ _ rfl)) ?_
  clear hK a; intro a hK
  refine kq hK 8 rfl (by decide) rfl (fun ρ hρ w' hw' => r_as _ rfl (hρ _ _ rfl)) ?_
  clear hK a; intro a hK
  refine wpQuiet_nil ?_
  rintro w' ⟨n, rfl⟩
  show Code.wp Yba.prog _ _ _ _
  have hCE1 := hCE.below hgF (bel_drewN (Below.refl w4.heap.size w4) n)
  have hCE2 : CE D F B0 arB gB b3 b4 b5 b6 st (w4.drewN n) S st (w4.drewN n) := ⟨hCE1.arb, Step.refl, hCE1.cl, hCE1.gv⟩
  have hSt5 := hSt4.trans (Step.of_below (bel_drewN (Below.refl w4.heap.size w4) n))
  generalize w4.drewN n = w5 at *
  refine m9a D hD F B0 arB gB hgF b3 b4 b5 b6 st w5 S (by omega) _ _ ?_ a w5 (hK.sub ⟨rfl, rfl, rfl, rfl, rfl, rfl, trivial⟩) hCE2
  clear hK a
  intro a w6 st6 hK hC6
  show Code.wp Yba.prog _ _ _ _
  refine wp_seq ?_
  refine wp_region_lit ?_
  refine kl hK 43 rfl (by decide) rfl (fun ρ hρ => r_mkf _ _ rfl (hρ _ _ rfl) (hρ _ _ rfl)) ?_
  clear hK a; intro a hK
  refine kl hK 9 rfl (by decide) rfl (fun ρ hρ => r_as _ rfl (hρ _ _ rfl)) ?_
  clear hK a; intro a hK
  refine wpList_nil ?_
  show Code.wp Yba.prog _ _ _ _
  obtain ⟨d0, d1, d2, -⟩ := hC6.cl.cc
  obtain ⟨la, lc, l1, l2, l3, l4, l5⟩ := hC6.arb.ar.ck.lev
  have d1' : w6.cell? ⟨b4, 1, none⟩ = some (.int .i32 ((0 : Nat) : Int)) := d1
  refine wp_seq ?_
  refine wp_seq ?_
  refine wp_region_lit ?_
  refine kl hK 44 rfl (by decide) rfl (fun ρ hρ => r_fo58_0 _ rfl (hρ _ _ rfl)) ?_
  clear hK a; intro a hK
  refine kl hK 45 rfl (by decide) rfl (fun ρ hρ => r_ld51 _ rfl (hρ _ _ rfl) d0) ?_
  clear hK a; intro a hK
  refine kl hK 46 rfl (by decide) rfl (fun ρ hρ => r_fo58_1 _ rfl (hρ _ _ rfl)) ?_
  clear hK a; intro a hK
  refine kl hK 47 rfl (by decide) rfl (fun ρ hρ => r_ld40 _ rfl (hρ _ _ rfl) d1' d2) ?_
  clear hK a; intro a hK
  refine kc hK 48 rfl (by decide) rfl (fun ρ hρ => r_call22 _ _ rfl (hρ _ _ rfl) (hρ _ _ rfl) (hρ _ _ rfl)) (list_gen arB la D.ll lc 0 D.ll w6 hC6.arb.ar.arow hC6.arb.ar.ck.u1 l1 l4 (Nat.zero_le _) (Nat.le_refl _) l2 l3 (by omega)) ?_
  rintro e w7 ⟨⟨a', c', rfl, ha'⟩, hb7⟩
  refine ⟨_, rfl, ?_⟩
  clear hK a; intro a hK
  rw [Nat.sub_zero] at hK
  refine kl hK 49 rfl (by decide) rfl (fun ρ hρ => r_len32 _ rfl (hρ _ _ rfl)) ?_
  clear hK a; intro a hK
  refine kl hK 50 rfl (by decide) rfl (fun ρ hρ => r_mv _ rfl (hρ _ _ rfl)) ?_
  clear hK a; intro a hK
  refine wpList_nil ?_
  show Code.wp Yba.prog _ _ _ _
  have hC7 := hC6.below hgF hb7
  have hL : ∀ l, l < D.ll → ∃ b, a' = some ⟨b, 0, none⟩ ∧ b < w7.heap.size ∧ ¬ TSet arB st6 b ∧ w7.cell? ⟨b, l * 2, none⟩ = some (.int .i32 (D.eo l)) ∧ w7.cell? ⟨b, l * 2 + 1, none⟩ = some (.int .i32 (D.eo (l + 1))) := fun l hl => by
    obtain ⟨b, f1, fF, f2, f3, f4⟩ := l5 l hl
    obtain ⟨b', g1, g2⟩ := ha' (by omega)
    rw [f1] at g1
    cases g1
    exact ⟨b, by rw [g2, Nat.zero_mul], Nat.lt_of_lt_of_le f2 hb7.size, F_not hC6.arb fF, (hb7.cell (p := ⟨b, l * 2, none⟩) f2).trans f3, (hb7.cell (p := ⟨b, l * 2 + 1, none⟩) f2).trans f4⟩
  have hC7' : CE D F B0 arB gB b3 b4 b5 b6 st6 w7 (ph1 D S S.1.length) st6 w7 := ⟨hC7.arb, Step.refl, hC7.cl, hC7.gv⟩
  refine m9b D hD F B0 arB gB hgF b3 b4 b5 b6 st6 w7 (ph1 D S S.1.length) a' c' hL _ _ ?_ a w7 st6 (hK.sub ⟨rfl, rfl, rfl, rfl, rfl, rfl, rfl, rfl, trivial⟩) hC7'
  clear hK a
  intro a w8 st8 hK hC8
  show Code.wp Yba.prog _ _ _ _
  obtain ⟨-, -, -, c83, c84, -⟩ := hC8.cl.cc
  have hStF : Step arB st w0 st8 w8 := hSt5.trans (hC7.stp.trans hC8.stp)
  refine wp_seq ?_
  refine wp_region_lit ?_
  refine kl hK 69 rfl (by decide) rfl (fun ρ hρ => r_fo58_2 _ rfl (hρ _ _ rfl)) ?_
  clear hK a; intro a hK
  refine kl hK 70 rfl (by decide) rfl (fun ρ hρ => r_fa38_1 _ rfl (hρ _ _ rfl)) ?_
  clear hK a; intro a hK
  refine kl hK 71 rfl (by decide) rfl (fun ρ hρ => r_ld21 _ rfl (hρ _ _ rfl) c84) ?_
  clear hK a; intro a hK
  refine kl hK 72 rfl (by decide) rfl (fun ρ hρ => r_gtr21 _ _ rfl (hρ _ _ rfl) (hρ _ _ rfl)) ?_
  clear hK a; intro a hK
  refine wpList_nil ?_
  show Code.wp Yba.prog _ _ _ _
  by_cases hasc : 0 < D.asc
  · have hz : fin D S = chk D (chks D (ph1 D S S.1.length) (D.prs D.ll)) D.asp (D.lkp D.asp).1 := if_pos hasc
    refine wp_cond_true (by rw [hK.rho (.tmp 72) _ rfl]; exact congrArg Value.bool (decide_eq_true hasc)) ?_
    refine wp_region_lit ?_
    refine kl hK 73 rfl (by decide) rfl (fun ρ hρ => r_mv _ rfl (hρ _ _ rfl)) ?_
    clear hK a; intro a hK
    refine kl hK 74 rfl (by decide) rfl (fun ρ hρ => r_fo58_2 _ rfl (hρ _ _ rfl)) ?_
    clear hK a; intro a hK
    refine kl hK 75 rfl (by decide) rfl (fun ρ hρ => r_fa38_0 _ rfl (hρ _ _ rfl)) ?_
    clear hK a; intro a hK
    refine kl hK 76 rfl (by decide) rfl (fun ρ hρ => r_ld21 _ rfl (hρ _ _ rfl) c83) ?_
    clear hK a; intro a hK
    refine kc hK 77 rfl (by decide) rfl (fun ρ hρ => r_callv20 _ _ rfl (hρ _ _ rfl) (hρ _ _ rfl)) (held_any D hD F B0 arB gB hgF st8 _ D.asp hD.asp w8 hC8.arb hC8.gv b3 b4 b5 b6 hC8.cl) ?_
    rintro ee w9 ⟨rfl, st9, hA9, hSt9⟩
    refine ⟨_, rfl, ?_⟩
    clear hK a; intro a hK
    refine wpList_nil ?_
    exact kend0 hK rfl ⟨rfl, st9, by rw [hz]; exact hA9, hStF.trans hSt9⟩
  · have hz : fin D S = chks D (ph1 D S S.1.length) (D.prs D.ll) := if_neg hasc
    refine wp_cond_false (by rw [hK.rho (.tmp 72) _ rfl]; exact congrArg Value.bool (decide_eq_false hasc)) ?_
    refine wp_skip ?_
    exact kend0 hK rfl ⟨rfl, st8, by rw [hz]; exact hC8.arb, hStF⟩
end Go.Proofs.Ybulkexuo
