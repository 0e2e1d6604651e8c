import Derived.Test.YbulkexuoM2
import Derived.Test.YbulkexuoR
namespace Go.Proofs.Ybulkexuo
open Go.RowKit

def argK (args : List Value) : List (Nat × Value) → Prop
  | [] => True
  | e :: M => args[e.1]? = some e.2 ∧ argK args M
theorem kn_call (args : List Value) (f : Nat) {L : List (Nat × Value)} (h : argK args L) (hf : args.length ≤ f) : Kn f L { tmps := args.toArray ++ Array.replicate (f - args.toArray.size) undef, defers := [] } := by
  refine kn_args args f L ?_ hf
  induction L with
  | nil => intro e he; cases he
  | cons e0 M ih =>
    intro e he
    rcases List.mem_cons.1 he with rfl | he
    · exact h.1
    · exact ih h.2 e he
theorem cell_new (w : World) (cs : Array Value) (t : TypeId) {i : Nat} {v : Value} (h : cs[i]? = some v) : (w.alloc (.cells cs t)).cell? ⟨w.heap.size, i, none⟩ = some v := by
  have hi : i < cs.size := (Array.getElem?_eq_some_iff.1 h).1
  have := (World.rowIs_alloc w cs t (fun i => (cs[i]?).getD undef) (fun i hi => by rw [Array.getElem?_eq_getElem hi]; rfl)).cell hi
  rw [this, h]
  rfl
theorem bel_alloc {w w' : World} (h : Below w.heap.size w w') (o : Obj) : Below w.heap.size w (w'.alloc o) := h.alloc h.size o
theorem bel_trans {w w' w'' : World} (h : Below w.heap.size w w') (k : Below w'.heap.size w' w'') : Below w.heap.size w w'' := h.trans (k.mono h.size)

set_option maxRecDepth 100000 in
theorem m10 (D : PD) (hD : D.Fine) (mB q : Nat) (hq : q < D.N) (w0 : World) (a0 : Option Addr) (c0 : Nat) (A : Nat → Option Addr) (cc : Nat → Nat) (hLv : LvAt D w0 a0 A cc) (Q : Exit → Act → World → Prop) (K : Act → World → Prop) (hKK : ∀ a w, Kn 54 ((7, .bool (D.lkp q).2) :: (6, .int .i32 (D.lkp q).1) :: []) a → Below w0.heap.size w0 w → K a w) (a : Act) (w : World) (hK : Kn 54 ((33, .int .i64 (0 : Nat)) :: (32, .int .i64 D.ll) :: (31, .slice a0 D.ll c0) :: (7, .bool (D.lkN q 0).2) :: (6, .int .i32 (D.lkN q 0).1) :: (1, .int .i32 q) :: (0, ptr mB) :: []) a) (hb : Below w0.heap.size w0 w) :
    Code.wp Yba.prog (nav [1, 1, 1, 0, 1] (Yba.f10.body.getD .skip)) (Exit.then K Q) a w := by
  have hN := hD.N20
  have hll := hD.ll
  refine loop_n K (fun n a w => ∃ l, l ≤ D.ll ∧ n = D.ll - l ∧ Kn 54 ((33, .int .i64 (l : Nat)) :: (32, .int .i64 D.ll) :: (31, .slice a0 D.ll c0) :: (7, .bool (D.lkN q l).2) :: (6, .int .i32 (D.lkN q l).1) :: (1, .int .i32 q) :: (0, ptr mB) :: []) a ∧ Below w0.heap.size w0 w) ⟨0, Nat.zero_le _, rfl, hK, hb⟩ ?_
  clear hK hb a w
  rintro n a w R ⟨l, hl, hn, hK, hb⟩ hR
  refine wp_seq ?_
  refine wp_region_lit ?_
  refine kl hK 34 rfl (by decide) rfl (fun ρ hρ => r_lss3 _ _ rfl (hρ _ _ rfl) (hρ _ _ rfl)) ?_
  clear hK a; intro a hK
  refine wpList_nil ?_
  show Code.wp Yba.prog _ _ _ _
  refine wp_seq ?_
  by_cases hll2 : l < D.ll
  · obtain ⟨⟨b, off, ha, hlt, k0, k1⟩, hC⟩ := (hLv.below hb) l hll2
    subst ha
    have hm := hD.mask l hll2
    have hdl : D.mask l / 2 ^ q ≤ D.mask l := Nat.div_le_self _ _
    refine wp_cond_true (by rw [hK.rho (.tmp 34) _ rfl]; exact congrArg Value.bool (decide_eq_true (by omega))) ?_
    refine wp_skip ?_
    show Code.wp Yba.prog _ _ _ _
    refine wp_seq ?_
    refine wp_block ?_
    refine wp_seq ?_
    refine wp_region_lit ?_
    refine kl hK 35 rfl (by decide) rfl (fun ρ hρ => r_ix23 _ _ rfl hll2 (hρ _ _ rfl) (hρ _ _ rfl)) ?_
    clear hK a; intro a hK
    refine kl hK 36 rfl (by decide) rfl (fun ρ hρ => r_ld35 _ rfl (hρ _ _ rfl) k0 k1) ?_
    clear hK a; intro a hK
    refine kl hK 9 rfl (by decide) rfl (fun ρ hρ => r_al35 rfl) ?_
    clear hK a; intro a hK
    refine kst hK rfl rfl (fun ρ hρ => r_st35 (w := w) _ _ rfl (hρ _ _ rfl) (hρ _ _ rfl)) ?_
    refine wpList_nil ?_
    show Code.wp Yba.prog _ _ _ _
    have n0 := cell_new w #[.int .u32 (D.mask l), .slice (A l) (D.nc l) (cc l)] 35 (i := 0) rfl
    have n1 := cell_new w #[.int .u32 (D.mask l), .slice (A l) (D.nc l) (cc l)] 35 (i := 1) rfl
    have hb1 := bel_alloc hb (.cells #[.int .u32 (D.mask l), .slice (A l) (D.nc l) (cc l)] 35)
    have hC1 : CntAt D (w.alloc (.cells #[.int .u32 (D.mask l), .slice (A l) (D.nc l) (cc l)] 35)) l (A l) := hC.below (bel_alloc (Below.refl _ _) _)
    generalize w.alloc (.cells #[.int .u32 (D.mask l), .slice (A l) (D.nc l) (cc l)] 35) = w1 at *
    generalize w.heap.size = lB at *
    refine wp_seq ?_
    refine wp_region_lit ?_
    refine kl hK 37 rfl (by decide) rfl (fun ρ hρ => r_fo35_0 _ rfl (hρ _ _ rfl)) ?_
    clear hK a; intro a hK
    refine kl hK 38 rfl (by decide) rfl (fun ρ hρ => r_ld30 _ rfl (hρ _ _ rfl) n0) ?_
    clear hK a; intro a hK
    refine kl hK 39 rfl (by decide) rfl (fun ρ hρ => r_mv _ rfl (hρ _ _ rfl)) ?_
    clear hK a; intro a hK
    refine kl hK 40 rfl (by decide) rfl (fun ρ hρ => r_cn21_36 _ rfl (by omega) (hρ _ _ rfl)) ?_
    clear hK a; intro a hK
    refine kl hK 41 rfl (by decide) rfl (fun ρ hρ => r_shr30 _ _ rfl (by omega) (hρ _ _ rfl) (hρ _ _ rfl)) ?_
    clear hK a; intro a hK
    refine kl hK 42 rfl (by decide) rfl (fun ρ hρ => r_bit _ _ rfl (by omega) (hρ _ _ rfl) (hρ _ _ rfl)) ?_
    clear hK a; intro a hK
    refine kl hK 43 rfl (by decide) rfl (fun ρ hρ => r_eql30 _ _ rfl (hρ _ _ rfl) (hρ _ _ rfl)) ?_
    clear hK a; intro a hK
    refine wpList_nil ?_
    show Code.wp Yba.prog _ _ _ _
    by_cases hbit : D.mask l / 2 ^ q % 2 = 1
    · have hbt : D.bit l q = true := decide_eq_true hbit
      have hnx : D.lkN q (l + 1) = (mx (D.lkN q l).1 (D.cnt l q), true) := if_pos hbt
      refine wp_cond_true (by rw [hK.rho (.tmp 43) _ rfl]; exact congrArg Value.bool (decide_eq_true (by omega))) ?_
      refine wp_seq ?_
      refine wp_region_lit ?_
      refine kl hK 44 rfl (by decide) rfl (fun ρ hρ => r_ld35z _ rfl (hρ _ _ rfl) n0 n1) ?_
      clear hK a; intro a hK
      refine kl hK 45 rfl (by decide) rfl (fun ρ hρ => r_mv _ rfl (hρ _ _ rfl)) ?_
      clear hK a; intro a hK
      refine kc hK 46 rfl (by decide) rfl (fun ρ hρ => r_call24 _ _ rfl (hρ _ _ rfl) (hρ _ _ rfl) (hρ _ _ rfl)) (cnt_any D hD l q hll2 (by omega) (A l) (cc l) w1 hC1) ?_
      rintro e w2 ⟨rfl, hb2⟩
      refine ⟨_, rfl, ?_⟩
      clear hK a; intro a hK
      refine kl hK 10 rfl (by decide) rfl (fun ρ hρ => r_as _ rfl (hρ _ _ rfl)) ?_
      clear hK a; intro a hK
      refine wpList_nil ?_
      show Code.wp Yba.prog _ _ _ _
      have hb3 := bel_trans hb1 hb2
      refine wp_seq ?_
      refine wp_seq ?_
      refine wp_region_lit ?_
      refine kl hK 47 rfl (by decide) rfl (fun ρ hρ => r_mv _ rfl (hρ _ _ rfl)) ?_
      clear hK a; intro a hK
      refine kl hK 48 rfl (by decide) rfl (fun ρ hρ => r_mv _ rfl (hρ _ _ rfl)) ?_
      clear hK a; intro a hK
      refine kl hK 49 rfl (by decide) rfl (fun ρ hρ => r_gtr21 _ _ rfl (hρ _ _ rfl) (hρ _ _ rfl)) ?_
      clear hK a; intro a hK
      refine wpList_nil ?_
      show Code.wp Yba.prog _ _ _ _
      by_cases hc : (D.lkN q l).1 < D.cnt l q
      · have hv : mx (D.lkN q l).1 (D.cnt l q) = D.cnt l q := if_pos hc
        refine wp_cond_true (by rw [hK.rho (.tmp 49) _ rfl]; exact congrArg Value.bool (decide_eq_true hc)) ?_
        refine wp_region_lit ?_
        refine kl hK 50 rfl (by decide) rfl (fun ρ hρ => r_mv _ rfl (hρ _ _ rfl)) ?_
        clear hK a; intro a hK
        refine kl hK 6 rfl (by decide) rfl (fun ρ hρ => r_as _ rfl (hρ _ _ rfl)) ?_
        clear hK a; intro a hK
        refine wpList_nil ?_
        show Code.wp Yba.prog _ _ _ _
        refine wp_region_lit ?_
        refine kl hK 7 rfl (by decide) rfl (fun ρ hρ => r_as _ rfl (hρ _ _ rfl)) ?_
        clear hK a; intro a hK
        refine wpList_nil ?_
        show Code.wp Yba.prog _ _ _ _
        refine wp_region_lit ?_
        refine kl hK 51 rfl (by decide) rfl (fun ρ hρ => r_inc3 _ rfl (by omega) (hρ _ _ rfl) (hρ _ _ rfl)) ?_
        clear hK a; intro a hK
        refine kl hK 33 rfl (by decide) rfl (fun ρ hρ => r_mv _ rfl (hρ _ _ rfl)) ?_
        clear hK a; intro a hK
        refine wpList_nil ?_
        exact hR (D.ll - (l + 1)) _ _ (by omega) ⟨l + 1, hll2, rfl, hK.sub ⟨rfl, rfl, rfl, by rw [hnx]; rfl, by rw [hnx, hv]; rfl, rfl, rfl, trivial⟩, hb3⟩
      · have hv : mx (D.lkN q l).1 (D.cnt l q) = (D.lkN q l).1 := if_neg hc
        refine wp_cond_false (by rw [hK.rho (.tmp 49) _ rfl]; exact congrArg Value.bool (decide_eq_false hc)) ?_
        refine wp_skip ?_
        show Code.wp Yba.prog _ _ _ _
        refine wp_region_lit ?_
        refine kl hK 7 rfl (by decide) rfl (fun ρ hρ => r_as _ rfl (hρ _ _ rfl)) ?_
        clear hK a; intro a hK
        refine wpList_nil ?_
        show Code.wp Yba.prog _ _ _ _
        refine wp_region_lit ?_
        refine kl hK 51 rfl (by decide) rfl (fun ρ hρ => r_inc3 _ rfl (by omega) (hρ _ _ rfl) (hρ _ _ rfl)) ?_
        clear hK a; intro a hK
        refine kl hK 33 rfl (by decide) rfl (fun ρ hρ => r_mv _ rfl (hρ _ _ rfl)) ?_
        clear hK a; intro a hK
        refine wpList_nil ?_
        exact hR (D.ll - (l + 1)) _ _ (by omega) ⟨l + 1, hll2, rfl, hK.sub ⟨rfl, rfl, rfl, by rw [hnx]; rfl, by rw [hnx, hv]; rfl, rfl, rfl, trivial⟩, hb3⟩
    · have hbt : ¬ D.bit l q = true := fun h => hbit (of_decide_eq_true h)
      have hnx : D.lkN q (l + 1) = D.lkN q l := if_neg hbt
      refine wp_cond_false (by rw [hK.rho (.tmp 43) _ rfl]; exact congrArg Value.bool (decide_eq_false (by omega))) ?_
      refine wp_skip ?_
      show Code.wp Yba.prog _ _ _ _
      refine wp_region_lit ?_
      refine kl hK 51 rfl (by decide) rfl (fun ρ hρ => r_inc3 _ rfl (by omega) (hρ _ _ rfl) (hρ _ _ rfl)) ?_
      clear hK a; intro a hK
      refine kl hK 33 rfl (by decide) rfl (fun ρ hρ => r_mv _ rfl (hρ _ _ rfl)) ?_
      clear hK a; intro a hK
      refine wpList_nil ?_
      exact hR (D.ll - (l + 1)) _ _ (by omega) ⟨l + 1, hll2, rfl, hK.sub ⟨rfl, rfl, rfl, by rw [hnx]; rfl, by rw [hnx]; rfl, rfl, rfl, trivial⟩, hb1⟩
  · have hle : l = D.ll := by omega
    refine wp_cond_false (by rw [hK.rho (.tmp 34) _ rfl]; exact congrArg Value.bool (decide_eq_false (by omega))) ?_
    refine wp_exit ?_
    subst hle
    exact hKK _ _ (hK.sub ⟨rfl, rfl, trivial⟩) hb

set_option maxRecDepth 100000 in
theorem mlookup_any (D : PD) (hD : D.Fine) (mB q : Nat) (hq : q < D.N) (w : World) (hM : MV D w mB) :
    Calls Yba.prog 10 #[ptr mB, .int .i32 q] w fun e w' => e = .returned (.tuple #[.int .i32 (D.lkp q).1, .bool (D.lkp q).2]) ∧ Below w.heap.size w w' := by
  refine calls_of_wp (c := Yba.f10.body.getD .skip) Yba.func10 (by kernel_rfl) ?_
  rw [Yba.ntmps10]
  have hK := kn_call [ptr mB, .int .i32 q] 54 (L := [(1, .int .i32 q), (0, ptr mB)]) ⟨rfl, rfl, trivial⟩ (by simp)
  generalize ({ tmps := [ptr mB, .int .i32 q].toArray ++ Array.replicate (54 - [ptr mB, .int .i32 q].toArray.size) undef, defers := [] } : Act) = a at *
  have c2 := hM.c2
  have c3 := hM.c3
  obtain ⟨a0, c0', A, cc, c0, hLv⟩ := hM.lv
  have tail : ∀ a, Kn 54 ((7, .bool (D.lkN q 0).2) :: (6, .int .i32 (D.lkN q 0).1) :: (1, .int .i32 q) :: (0, ptr mB) :: []) a → Code.wp Yba.prog (nav [1, 1, 1] (Yba.f10.body.getD .skip)) (bodyPost Yba.prog Yba.f10 fun e w' => e = .returned (.tuple #[.int .i32 (D.lkp q).1, .bool (D.lkp q).2]) ∧ Below w.heap.size w w') a w := by
    clear hK a
    intro a hK
    conv => arg 2; whnf
    refine wp_seq ?_
    refine wp_seq ?_
    refine wp_region_lit ?_
    refine kl hK 28 rfl (by decide) rfl (fun ρ hρ => r_mv _ rfl (hρ _ _ rfl)) ?_
    clear hK a; intro a hK
    refine kl hK 29 rfl (by decide) rfl (fun ρ hρ => r_nil _ rfl (hρ _ _ rfl)) ?_
    clear hK a; intro a hK
    refine kl hK 30 rfl (by decide) rfl (fun ρ hρ => r_fo66_0 _ rfl (hρ _ _ rfl)) ?_
    clear hK a; intro a hK
    refine kl hK 31 rfl (by decide) rfl (fun ρ hρ => r_ld23 _ rfl (hρ _ _ rfl) c0) ?_
    clear hK a; intro a hK
    refine kl hK 32 rfl (by decide) rfl (fun ρ hρ => r_len23 _ rfl (hρ _ _ rfl)) ?_
    clear hK a; intro a hK
    refine kl hK 33 rfl (by decide) rfl (fun ρ hρ => r_mv _ rfl (hρ _ _ rfl)) ?_
    clear hK a; intro a hK
    refine wpList_nil ?_
    show Code.wp Yba.prog _ _ _ _
    refine m10 D hD mB q hq w a0 c0' A cc hLv _ _ ?_ a w (hK.sub ⟨rfl, rfl, rfl, rfl, rfl, rfl, rfl, trivial⟩) (Below.refl _ _)
    clear hK a
    intro a w' hK hb
    show Code.wp Yba.prog _ _ _ _
    refine wp_seq ?_
    refine wp_region_lit ?_
    refine kl hK 52 rfl (by decide) rfl (fun ρ hρ => r_mv _ rfl (hρ _ _ rfl)) ?_
    clear hK a; intro a hK
    refine kl hK 53 rfl (by decide) rfl (fun ρ hρ => r_mv _ rfl (hρ _ _ rfl)) ?_
    clear hK a; intro a hK
    refine kl hK 4 rfl (by decide) rfl (fun ρ hρ => r_as _ rfl (hρ _ _ rfl)) ?_
    clear hK a; intro a hK
    refine kl hK 5 rfl (by decide) rfl (fun ρ hρ => r_as _ rfl (hρ _ _ rfl)) ?_
    clear hK a; intro a hK
    refine wpList_nil ?_
    show Code.wp Yba.prog _ _ _ _
    refine wp_ret ?_
    exact kret2 hK rfl rfl rfl ⟨rfl, hb⟩
  conv => arg 2; whnf
  refine wp_seq ?_
  refine wp_region_lit ?_
  refine kl hK 4 rfl (by decide) rfl (fun ρ hρ => r_as _ rfl (hρ _ _ rfl)) ?_
  clear hK a; intro a hK
  refine kl hK 5 rfl (by decide) rfl (fun ρ hρ => r_as _ rfl (hρ _ _ rfl)) ?_
  clear hK a; intro a hK
  refine wpList_nil ?_
  show Code.wp Yba.prog _ _ _ _
  refine wp_seq ?_
  refine wp_region_lit ?_
  refine kl hK 6 rfl (by decide) rfl (fun ρ hρ => r_as _ rfl (hρ _ _ rfl)) ?_
  clear hK a; intro a hK
  refine kl hK 7 rfl (by decide) rfl (fun ρ hρ => r_as _ rfl (hρ _ _ rfl)) ?_
  clear hK a; intro a hK
  refine wpList_nil ?_
  show Code.wp Yba.prog _ _ _ _
  refine wp_seq ?_
  refine wp_seq ?_
  replace hK := hK.sub (M := (7, .bool false) :: (6, .int .i32 0) :: (1, .int .i32 q) :: (0, ptr mB) :: []) ⟨rfl, rfl, rfl, rfl, trivial⟩
  by_cases h1 : (q : Int) = D.asp
  · by_cases h2 : 0 < D.asc
    · have hs : D.lkN q 0 = (D.asc, true) := if_pos ⟨by omega, h2⟩
      refine wp_region_lit ?_
      refine kl hK 11 rfl (by decide) rfl (fun ρ hρ => r_mv _ rfl (hρ _ _ rfl)) ?_
      clear hK a; intro a hK
      refine kl hK 12 rfl (by decide) rfl (fun ρ hρ => r_mv _ rfl (hρ _ _ rfl)) ?_
      clear hK a; intro a hK
      refine kl hK 13 rfl (by decide) rfl (fun ρ hρ => r_nil _ rfl (hρ _ _ rfl)) ?_
      clear hK a; intro a hK
      refine kl hK 14 rfl (by decide) rfl (fun ρ hρ => r_fo66_2 _ rfl (hρ _ _ rfl)) ?_
      clear hK a; intro a hK
      refine kl hK 15 rfl (by decide) rfl (fun ρ hρ => r_ld21 _ rfl (hρ _ _ rfl) c2) ?_
      clear hK a; intro a hK
      refine kl hK 16 rfl (by decide) rfl (fun ρ hρ => r_eql21 _ _ rfl (hρ _ _ rfl) (hρ _ _ rfl)) ?_
      clear hK a; intro a hK
      refine kl hK 17 rfl (by decide) rfl (fun ρ hρ => r_mv _ rfl (hρ _ _ rfl)) ?_
      clear hK a; intro a hK
      refine klg hK 18 6 17 rfl (by decide) rfl (by kernel_rfl) rfl (decide_eq_true h1) (fun ρ hρ => r_mv _ rfl (hρ _ _ rfl)) ?_
      clear hK a; intro a hK
      refine klg hK 19 6 17 rfl (by decide) rfl (by kernel_rfl) rfl (decide_eq_true h1) (fun ρ hρ => r_nil _ rfl (hρ _ _ rfl)) ?_
      clear hK a; intro a hK
      refine klg hK 20 6 17 rfl (by decide) rfl (by kernel_rfl) rfl (decide_eq_true h1) (fun ρ hρ => r_fo66_3 _ rfl (hρ _ _ rfl)) ?_
      clear hK a; intro a hK
      refine klg hK 21 6 17 rfl (by decide) rfl (by kernel_rfl) rfl (decide_eq_true h1) (fun ρ hρ => r_ld21 _ rfl (hρ _ _ rfl) c3) ?_
      clear hK a; intro a hK
      refine klg hK 22 6 17 rfl (by decide) rfl (by kernel_rfl) rfl (decide_eq_true h1) (fun ρ hρ => r_gtr21 _ _ rfl (hρ _ _ rfl) (hρ _ _ rfl)) ?_
      clear hK a; intro a hK
      refine kl hK 23 rfl (by decide) rfl (fun ρ hρ => r_pickT _ _ _ rfl (decide_eq_true h1) (hρ _ _ rfl) (hρ _ _ rfl)) ?_
      clear hK a; intro a hK
      refine wpList_nil ?_
      show Code.wp Yba.prog _ _ _ _
      refine wp_cond_true (by rw [hK.rho (.tmp 23) _ rfl]; exact congrArg Value.bool (decide_eq_true h2)) ?_
      refine wp_region_lit ?_
      refine kl hK 24 rfl (by decide) rfl (fun ρ hρ => r_mv _ rfl (hρ _ _ rfl)) ?_
      clear hK a; intro a hK
      refine kl hK 25 rfl (by decide) rfl (fun ρ hρ => r_nil _ rfl (hρ _ _ rfl)) ?_
      clear hK a; intro a hK
      refine kl hK 26 rfl (by decide) rfl (fun ρ hρ => r_fo66_3 _ rfl (hρ _ _ rfl)) ?_
      clear hK a; intro a hK
      refine kl hK 27 rfl (by decide) rfl (fun ρ hρ => r_ld21 _ rfl (hρ _ _ rfl) c3) ?_
      clear hK a; intro a hK
      refine kl hK 6 rfl (by decide) rfl (fun ρ hρ => r_as _ rfl (hρ _ _ rfl)) ?_
      clear hK a; intro a hK
      refine kl hK 7 rfl (by decide) rfl (fun ρ hρ => r_as _ rfl (hρ _ _ rfl)) ?_
      clear hK a; intro a hK
      refine wpList_nil ?_
      show Code.wp Yba.prog _ _ _ _
      exact tail _ (hK.sub ⟨by rw [hs]; rfl, by rw [hs]; rfl, rfl, rfl, trivial⟩)
    · have hs : D.lkN q 0 = (0, false) := if_neg (fun h => h2 h.2)
      refine wp_region_lit ?_
      refine kl hK 11 rfl (by decide) rfl (fun ρ hρ => r_mv _ rfl (hρ _ _ rfl)) ?_
      clear hK a; intro a hK
      refine kl hK 12 rfl (by decide) rfl (fun ρ hρ => r_mv _ rfl (hρ _ _ rfl)) ?_
      clear hK a; intro a hK
      refine kl hK 13 rfl (by decide) rfl (fun ρ hρ => r_nil _ rfl (hρ _ _ rfl)) ?_
      clear hK a; intro a hK
      refine kl hK 14 rfl (by decide) rfl (fun ρ hρ => r_fo66_2 _ rfl (hρ _ _ rfl)) ?_
      clear hK a; intro a hK
      refine kl hK 15 rfl (by decide) rfl (fun ρ hρ => r_ld21 _ rfl (hρ _ _ rfl) c2) ?_
      clear hK a; intro a hK
      refine kl hK 16 rfl (by decide) rfl (fun ρ hρ => r_eql21 _ _ rfl (hρ _ _ rfl) (hρ _ _ rfl)) ?_
      clear hK a; intro a hK
      refine kl hK 17 rfl (by decide) rfl (fun ρ hρ => r_mv _ rfl (hρ _ _ rfl)) ?_
      clear hK a; intro a hK
      refine klg hK 18 6 17 rfl (by decide) rfl (by kernel_rfl) rfl (decide_eq_true h1) (fun ρ hρ => r_mv _ rfl (hρ _ _ rfl)) ?_
      clear hK a; intro a hK
      refine klg hK 19 6 17 rfl (by decide) rfl (by kernel_rfl) rfl (decide_eq_true h1) (fun ρ hρ => r_nil _ rfl (hρ _ _ rfl)) ?_
      clear hK a; intro a hK
      refine klg hK 20 6 17 rfl (by decide) rfl (by kernel_rfl) rfl (decide_eq_true h1) (fun ρ hρ => r_fo66_3 _ rfl (hρ _ _ rfl)) ?_
      clear hK a; intro a hK
      refine klg hK 21 6 17 rfl (by decide) rfl (by kernel_rfl) rfl (decide_eq_true h1) (fun ρ hρ => r_ld21 _ rfl (hρ _ _ rfl) c3) ?_
      clear hK a; intro a hK
      refine klg hK 22 6 17 rfl (by decide) rfl (by kernel_rfl) rfl (decide_eq_true h1) (fun ρ hρ => r_gtr21 _ _ rfl (hρ _ _ rfl) (hρ _ _ rfl)) ?_
      clear hK a; intro a hK
      refine kl hK 23 rfl (by decide) rfl (fun ρ hρ => r_pickT _ _ _ rfl (decide_eq_true h1) (hρ _ _ rfl) (hρ _ _ rfl)) ?_
      clear hK a; intro a hK
      refine wpList_nil ?_
      show Code.wp Yba.prog _ _ _ _
      refine wp_cond_false (by rw [hK.rho (.tmp 23) _ rfl]; exact congrArg Value.bool (decide_eq_false h2)) ?_
      refine wp_skip ?_
      show Code.wp Yba.prog _ _ _ _
      exact tail _ (hK.sub ⟨by rw [hs]; rfl, by rw [hs]; rfl, rfl, rfl, trivial⟩)
  · have hs : D.lkN q 0 = (0, false) := if_neg (fun h => h1 (by omega))
    refine wp_region_lit ?_
    refine kl hK 11 rfl (by decide) rfl (fun ρ hρ => r_mv _ rfl (hρ _ _ rfl)) ?_
    clear hK a; intro a hK
    refine kl hK 12 rfl (by decide) rfl (fun ρ hρ => r_mv _ rfl (hρ _ _ rfl)) ?_
    clear hK a; intro a hK
    refine kl hK 13 rfl (by decide) rfl (fun ρ hρ => r_nil _ rfl (hρ _ _ rfl)) ?_
    clear hK a; intro a hK
    refine kl hK 14 rfl (by decide) rfl (fun ρ hρ => r_fo66_2 _ rfl (hρ _ _ rfl)) ?_
    clear hK a; intro a hK
    refine kl hK 15 rfl (by decide) rfl (fun ρ hρ => r_ld21 _ rfl (hρ _ _ rfl) c2) ?_
    clear hK a; intro a hK
    refine kl hK 16 rfl (by decide) rfl (fun ρ hρ => r_eql21 _ _ rfl (hρ _ _ rfl) (hρ _ _ rfl)) ?_
    clear hK a; intro a hK
    refine kl hK 17 rfl (by decide) rfl (fun ρ hρ => r_mv _ rfl (hρ _ _ rfl)) ?_
    clear hK a; intro a hK
    refine klu hK 18 6 17 rfl (by decide) rfl (by kernel_rfl) rfl (decide_eq_false h1) ?_
    clear hK a; intro a hK
    refine klu hK 19 6 17 rfl (by decide) rfl (by kernel_rfl) rfl (decide_eq_false h1) ?_
    clear hK a; intro a hK
    refine klu hK 20 6 17 rfl (by decide) rfl (by kernel_rfl) rfl (decide_eq_false h1) ?_
    clear hK a; intro a hK
    refine klu hK 21 6 17 rfl (by decide) rfl (by kernel_rfl) rfl (decide_eq_false h1) ?_
    clear hK a; intro a hK
    refine klu hK 22 6 17 rfl (by decide) rfl (by kernel_rfl) rfl (decide_eq_false h1) ?_
    clear hK a; intro a hK
    refine kl hK 23 rfl (by decide) rfl (fun ρ hρ => r_pickE _ _ _ rfl (decide_eq_false h1) (hρ _ _ rfl) (hρ _ _ rfl)) ?_
    clear hK a; intro a hK
    refine wpList_nil ?_
    show Code.wp Yba.prog _ _ _ _
    refine wp_cond_false (hK.rho (.tmp 23) _ rfl) ?_
    refine wp_skip ?_
    show Code.wp Yba.prog _ _ _ _
    exact tail _ (hK.sub ⟨by rw [hs]; rfl, by rw [hs]; rfl, rfl, rfl, trivial⟩)
end Go.Proofs.Ybulkexuo
