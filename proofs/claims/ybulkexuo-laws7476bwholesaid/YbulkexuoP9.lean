import Derived.Test.YbulkexuoP8
namespace Go.Proofs.Ybulkexuo
open Go.RowKit
set_option linter.unusedSimpArgs false
set_option linter.unusedVariables false


/-- .. with the law's model and the places of the rises that were given -/
structure FM (I : IN) (w0 : World) (F : Nat → Prop) (arB : Nat) (st : ST) (B : Nat) (e0 l0 : Value) (hB0 hc0 : Nat) (r0 : Value) (mB r0B : Nat) (w : World) : Prop where
  fx : FX I w0 F arB st B e0 l0 hB0 hc0 r0 w
  m : MV I.D w mB
  ra : w.rowIs r0B 21 I.N (fun q => .int .i32 (ix I.R0 q))
section
variable {I : IN} {w0 : World} {F : Nat → Prop} {arB : Nat} {st : ST} {B : Nat} {e0 l0 : Value} {hB0 hc0 : Nat} {r0 : Value} {mB r0B : Nat} {w w' : World}
theorem FM.below (h : FM I w0 F arB st B e0 l0 hB0 hc0 r0 mB r0B w) (hb : Below w.heap.size w w') : FM I w0 F arB st B e0 l0 hB0 hc0 r0 mB r0B w' := ⟨h.fx.below hb, h.m.below hb, h.ra.of_block (hb.block _ h.ra.lt)⟩
theorem FM.hand (h : FM I w0 F arB st B e0 l0 hB0 hc0 r0 mB r0B w) : HandAt I.D w hB0 := handAt_own (D := I.D) h.fx.c4.fh
end


set_option maxRecDepth 100000 in
set_option maxHeartbeats 1000000 in
theorem lp10 (I : IN) (mB arB hB0 hc0 : Nat) (l0 e0 : Value) (R : List Rs) (hwf : WF I.N R) (wP : World) (base : Nat) (v : Value) (hown : wP.ownsRow base 46 4 v R.length (riseL R)) (tB : Nat) (htB : wP.heap.size ≤ tB) (Q : Exit → Act → World → Prop) (K : Act → World → Prop) (hKK : ∀ a w, Kn 706 ((51, .slice (some ⟨tB, 0, none⟩) I.N I.N) :: (50, ptr mB) :: (46, .int .i32 (I.D.asp : Nat)) :: (45, ptr arB) :: (44, v) :: (43, .slice (some ⟨hB0, 0, none⟩) I.N hc0) :: (42, l0) :: (41, e0) :: (21, .int .i32 I.N) :: LA I) a → Below wP.heap.size wP w → w.rowIs tB 21 I.N (fun q => .int .i32 (ix R q)) → K a w) (a : Act) (w : World) (hK : Kn 706 ((318, .int .i64 (0 : Nat)) :: (317, .int .i64 R.length) :: (316, v) :: (51, .slice (some ⟨tB, 0, none⟩) I.N I.N) :: (50, ptr mB) :: (46, .int .i32 (I.D.asp : Nat)) :: (45, ptr arB) :: (44, v) :: (43, .slice (some ⟨hB0, 0, none⟩) I.N hc0) :: (42, l0) :: (41, e0) :: (21, .int .i32 I.N) :: LA I) a) (hb : Below wP.heap.size wP w) (hrow : w.rowIs tB 21 I.N (fun _ => .int .i32 0)) :
    Code.wp Yba.prog (nav [1, 1, 1, 1, 1, 1, 1, 1, 1, 1, 1, 1, 1, 1, 1, 1, 1, 1, 1, 1, 1, 1, 1, 1, 1, 1, 0, 1] (Yba.f3.body.getD .skip)) (Exit.then K Q) a w := by
  have hN := I.N_le
  have hlen := hwf.len
  refine loop_n K (fun n a w => ∃ k, k ≤ R.length ∧ n = R.length - k ∧ Kn 706 ((318, .int .i64 (k : Nat)) :: (317, .int .i64 R.length) :: (316, v) :: (51, .slice (some ⟨tB, 0, none⟩) I.N I.N) :: (50, ptr mB) :: (46, .int .i32 (I.D.asp : Nat)) :: (45, ptr arB) :: (44, v) :: (43, .slice (some ⟨hB0, 0, none⟩) I.N hc0) :: (42, l0) :: (41, e0) :: (21, .int .i32 I.N) :: LA I) a ∧ Below wP.heap.size wP w ∧ w.rowIs tB 21 I.N (fun q => .int .i32 (plc R k q))) ⟨0, Nat.zero_le _, rfl, hK, hb, rowf hrow fun q _ => by rw [plc_zero]; rfl⟩ ?_
  clear hK hb hrow a w
  rintro n a w T ⟨k, hk, hn, hK, hb, hrow⟩ hR
  refine wp_seq ?_
  refine wp_region_lit ?_
  refine kl hK 319 rfl (by decide) rfl (fun ρ hρ => r_lss3 _ _ rfl (hρ _ _ rfl) (hρ _ _ rfl)) ?_
  clear hK a; intro a hK
  refine wpList_nil ?_
  show Code.wp Yba.prog _ _ _ _
  refine wp_seq ?_
  by_cases hkl : k < R.length
  · obtain ⟨r, hr⟩ : ∃ r, R[k]? = some r := ⟨_, List.getElem?_eq_getElem hkl⟩
    obtain ⟨c0, c1, c2, c3⟩ := riseL_get R k r hr
    have hrN := hwf.lt r (List.mem_of_getElem? hr)
    have hown1 := own_block hown fun b hb' => hb.block b (hown.lt b hb').2
    obtain ⟨g, cap, hv⟩ : ∃ g cap, v = .slice (some ⟨g, 0, none⟩) R.length cap := by
      rcases own_slice hown with ⟨_, h2⟩ | ⟨g, cap, h2, -, -⟩
      · omega
      · exact ⟨g, cap, h2⟩
    rw [hv] at hown1
    replace c0 := (own_cell hown1 c0).1
    replace c1 := (own_cell hown1 c1).1
    replace c2 := (own_cell hown1 c2).1
    replace c3 := (own_cell hown1 c3).1
    refine wp_cond_true (by rw [hK.rho (.tmp 319) _ rfl]; exact congrArg Value.bool (decide_eq_true (by omega))) ?_
    refine wp_skip ?_
    show Code.wp Yba.prog _ _ _ _
    replace hK := hK.sub (M := (318, .int .i64 (k : Nat)) :: (317, .int .i64 R.length) :: (316, .slice (some ⟨g, 0, none⟩) R.length cap) :: (51, .slice (some ⟨tB, 0, none⟩) I.N I.N) :: (50, ptr mB) :: (46, .int .i32 (I.D.asp : Nat)) :: (45, ptr arB) :: (44, v) :: (43, .slice (some ⟨hB0, 0, none⟩) I.N hc0) :: (42, l0) :: (41, e0) :: (21, .int .i32 I.N) :: LA I) ⟨rfl, rfl, by rw [hv]; rfl, rfl, rfl, rfl, rfl, rfl, rfl, rfl, rfl, rfl, rfl, rfl, rfl, rfl, rfl, rfl, rfl, rfl, rfl, rfl, trivial⟩
    refine wp_seq ?_
    refine wp_block ?_
    refine wp_seq ?_
    refine wp_region_lit ?_
    refine kl hK 320 rfl (by decide) rfl (fun ρ hρ => r_mv _ rfl (hρ _ _ rfl)) ?_
    clear hK a; intro a hK
    refine kl hK 321 rfl (by decide) rfl (fun ρ hρ => r_ix41z _ _ rfl hkl (hρ _ _ rfl) (hρ _ _ rfl)) ?_
    clear hK a; intro a hK
    refine kl hK 322 rfl (by decide) rfl (fun ρ hρ => r_ld46 _ rfl (hρ _ _ rfl) c0 c1 c2 c3) ?_
    clear hK a; intro a hK
    refine kl hK 53 rfl (by decide) rfl (fun ρ hρ => r_al46 rfl) ?_
    clear hK a; intro a hK
    refine kl hK 52 rfl (by decide) rfl (fun ρ hρ => r_as _ rfl (hρ _ _ rfl)) ?_
    clear hK a; intro a hK
    refine kst hK rfl rfl (fun ρ hρ => r_st46 (w := w) _ _ rfl (hρ _ _ rfl) (hρ _ _ rfl)) ?_
    refine wpList_nil ?_
    show Code.wp Yba.prog _ _ _ _
    have n0 := cell_new w #[.int .i32 r.p, .int .i32 r.old, .int .i32 r.cnt, .bool r.by_] 46 (i := 0) rfl
    have hb1 := bel_alloc hb (.cells #[.int .i32 r.p, .int .i32 r.old, .int .i32 r.cnt, .bool r.by_] 46)
    have hrow1 := hrow.of_block ((bel_alloc (Below.refl w.heap.size w) (.cells #[.int .i32 r.p, .int .i32 r.old, .int .i32 r.cnt, .bool r.by_] 46)).block _ hrow.lt)
    clear hb hrow hown1 c0 c1 c2 c3
    generalize w.alloc (.cells #[.int .i32 r.p, .int .i32 r.old, .int .i32 r.cnt, .bool r.by_] 46) = w1 at *
    generalize w.heap.size = xB at *
    refine wp_region_lit ?_
    refine kl hK 323 rfl (by decide) rfl (fun ρ hρ => r_mv _ rfl (hρ _ _ rfl)) ?_
    clear hK a; intro a hK
    refine kl hK 324 rfl (by decide) rfl (fun ρ hρ => r_fo46_0 _ rfl (hρ _ _ rfl)) ?_
    clear hK a; intro a hK
    refine kl hK 325 rfl (by decide) rfl (fun ρ hρ => r_ld21 _ rfl (hρ _ _ rfl) n0) ?_
    clear hK a; intro a hK
    refine kl hK 326 rfl (by decide) rfl (fun ρ hρ => r_mv _ rfl (hρ _ _ rfl)) ?_
    clear hK a; intro a hK
    refine kl hK 327 rfl (by decide) rfl (fun ρ hρ => r_inc3 _ rfl (by omega) (hρ _ _ rfl) (hρ _ _ rfl)) ?_
    clear hK a; intro a hK
    refine kl hK 328 rfl (by decide) rfl (fun ρ hρ => r_cn3_21 _ rfl (by omega) (hρ _ _ rfl)) ?_
    clear hK a; intro a hK
    refine kl hK 329 rfl (by decide) rfl (fun ρ hρ => r_ix33z _ _ rfl hrN (hρ _ _ rfl) (hρ _ _ rfl)) ?_
    clear hK a; intro a hK
    refine kst hK rfl rfl (fun ρ hρ => r_sto21 _ _ rfl (hρ _ _ rfl) (hρ _ _ rfl) (hrow1.cell hrN) (hrow1.frozen _)) ?_
    refine wpList_nil ?_
    show Code.wp Yba.prog _ _ _ _
    refine wp_region_lit ?_
    refine kl hK 330 rfl (by decide) rfl (fun ρ hρ => r_inc3 _ rfl (by omega) (hρ _ _ rfl) (hρ _ _ rfl)) ?_
    clear hK a; intro a hK
    refine kl hK 318 rfl (by decide) rfl (fun ρ hρ => r_mv _ rfl (hρ _ _ rfl)) ?_
    clear hK a; intro a hK
    refine wpList_nil ?_
    exact hR (R.length - (k + 1)) _ _ (by omega) ⟨k + 1, hkl, rfl, hK.sub ⟨rfl, rfl, by rw [hv]; rfl, rfl, rfl, rfl, rfl, rfl, rfl, rfl, rfl, rfl, rfl, rfl, rfl, rfl, rfl, rfl, rfl, rfl, rfl, rfl, trivial⟩, hb1.setCell (p := ⟨tB, r.p, none⟩) htB _, rowf (hrow1.set r.p (.int .i32 ((k + 1 : Nat) : Int))) fun q _ => by
      have := plc_succ hwf hr q
      rw [← this]
      by_cases e : q = r.p <;> simp [e]⟩
  · have hke : k = R.length := by omega
    refine wp_cond_false (by rw [hK.rho (.tmp 319) _ rfl]; exact congrArg Value.bool (decide_eq_false (by omega))) ?_
    refine wp_exit ?_
    subst hke
    exact hKK _ _ (hK.sub ⟨rfl, rfl, rfl, rfl, rfl, rfl, rfl, rfl, rfl, rfl, rfl, rfl, rfl, rfl, rfl, rfl, rfl, rfl, rfl, trivial⟩) hb (rowf hrow fun q _ => by rw [plc_all])

set_option maxRecDepth 100000 in
set_option maxHeartbeats 1000000 in
theorem y24 (I : IN) (w0 : World) (hI : I.At w0) (F : Nat → Prop) (arB : Nat) (st : ST) (B : Nat) (e0 l0 : Value) (hB0 hc0 : Nat) (r0 : Value) (hnext : ∀ a w mB r0B, Kn 706 ((51, .slice (some ⟨r0B, 0, none⟩) I.N I.N) :: (50, ptr mB) :: (46, .int .i32 (I.D.asp : Nat)) :: (45, ptr arB) :: (44, r0) :: (43, .slice (some ⟨hB0, 0, none⟩) I.N hc0) :: (42, l0) :: (41, e0) :: (21, .int .i32 I.N) :: LA I) a → FM I w0 F arB st B e0 l0 hB0 hc0 r0 mB r0B w → Code.wp Yba.prog (nav [1, 1, 1, 1, 1, 1, 1, 1, 1, 1, 1, 1, 1, 1, 1, 1, 1, 1, 1, 1, 1, 1, 1, 1, 1, 1, 1] (Yba.f3.body.getD .skip)) (bodyPost Yba.prog Yba.f3 (Post w0)) a w) (a : Act) (w : World) (hK : Kn 706 ((47, .int .i32 (I.D.gsp : Nat)) :: (46, .int .i32 (I.D.asp : Nat)) :: (45, ptr arB) :: (44, r0) :: (43, .slice (some ⟨hB0, 0, none⟩) I.N hc0) :: (42, l0) :: (41, e0) :: (21, .int .i32 I.N) :: LA I) a) (hX : FX I w0 F arB st B e0 l0 hB0 hc0 r0 w) :
    Code.wp Yba.prog (nav [1, 1, 1, 1, 1, 1, 1, 1, 1, 1, 1, 1, 1, 1, 1, 1, 1, 1, 1, 1, 1, 1, 1, 1] (Yba.f3.body.getD .skip)) (bodyPost Yba.prog Yba.f3 (Post w0)) a w := by
  have hN := I.N_le
  have hN1 := I.N_pos
  conv => arg 2; whnf
  refine wp_seq ?_
  refine wp_region_lit ?_
  refine kl hK 304 rfl (by decide) rfl (fun ρ hρ => r_mv _ rfl (hρ _ _ rfl)) ?_
  clear hK a; intro a hK
  refine kl hK 305 rfl (by decide) rfl (fun ρ hρ => r_mv _ rfl (hρ _ _ rfl)) ?_
  clear hK a; intro a hK
  refine kl hK 306 rfl (by decide) rfl (fun ρ hρ => r_mv _ rfl (hρ _ _ rfl)) ?_
  clear hK a; intro a hK
  refine kl hK 307 rfl (by decide) rfl (fun ρ hρ => r_mv _ rfl (hρ _ _ rfl)) ?_
  clear hK a; intro a hK
  refine kl hK 308 rfl (by decide) rfl (fun ρ hρ => r_mv _ rfl (hρ _ _ rfl)) ?_
  clear hK a; intro a hK
  refine kl hK 309 rfl (by decide) rfl (fun ρ hρ => r_mv _ rfl (hρ _ _ rfl)) ?_
  clear hK a; intro a hK
  refine kl hK 310 rfl (by decide) rfl (fun ρ hρ => r_mv _ rfl (hρ _ _ rfl)) ?_
  clear hK a; intro a hK
  refine kl hK 311 rfl (by decide) rfl (fun ρ hρ => r_mv _ rfl (hρ _ _ rfl)) ?_
  clear hK a; intro a hK
  refine kl hK 312 rfl (by decide) rfl (fun ρ hρ => r_b66_01234567 _ _ _ _ _ _ _ _ rfl (hρ _ _ rfl) (hρ _ _ rfl) (hρ _ _ rfl) (hρ _ _ rfl) (hρ _ _ rfl) (hρ _ _ rfl) (hρ _ _ rfl) (hρ _ _ rfl)) ?_
  clear hK a; intro a hK
  refine kl hK 313 rfl (by decide) rfl (fun ρ hρ => r_box66 _ rfl (hρ _ _ rfl)) ?_
  clear hK a; intro a hK
  refine kl hK 50 rfl (by decide) rfl (fun ρ hρ => r_as _ rfl (hρ _ _ rfl)) ?_
  clear hK a; intro a hK
  refine wpList_nil ?_
  show Code.wp Yba.prog _ _ _ (w.alloc (.cells #[.slice I.lA I.ll I.lc, .slice (some ⟨hB0, 0, none⟩) I.N hc0, .int .i32 (I.D.asp : Nat), .int .i32 I.asc, .int .i32 I.aAt, .int .i32 (I.D.gsp : Nat), .int .i32 I.gsc, .int .i32 (I.N : Nat)] 66))
  have n0 : (w.alloc (.cells #[.slice I.lA I.ll I.lc, .slice (some ⟨hB0, 0, none⟩) I.N hc0, .int .i32 (I.D.asp : Nat), .int .i32 I.asc, .int .i32 I.aAt, .int .i32 (I.D.gsp : Nat), .int .i32 I.gsc, .int .i32 (I.N : Nat)] 66)).cell? ⟨w.heap.size, 0, none⟩ = some (.slice I.lA I.ll I.lc) := cell_new w #[.slice I.lA I.ll I.lc, .slice (some ⟨hB0, 0, none⟩) I.N hc0, .int .i32 (I.D.asp : Nat), .int .i32 I.asc, .int .i32 I.aAt, .int .i32 (I.D.gsp : Nat), .int .i32 I.gsc, .int .i32 (I.N : Nat)] 66 (i := 0) rfl
  have n1 : (w.alloc (.cells #[.slice I.lA I.ll I.lc, .slice (some ⟨hB0, 0, none⟩) I.N hc0, .int .i32 (I.D.asp : Nat), .int .i32 I.asc, .int .i32 I.aAt, .int .i32 (I.D.gsp : Nat), .int .i32 I.gsc, .int .i32 (I.N : Nat)] 66)).cell? ⟨w.heap.size, 1, none⟩ = some (.slice (some ⟨hB0, 0, none⟩) I.N hc0) := cell_new w #[.slice I.lA I.ll I.lc, .slice (some ⟨hB0, 0, none⟩) I.N hc0, .int .i32 (I.D.asp : Nat), .int .i32 I.asc, .int .i32 I.aAt, .int .i32 (I.D.gsp : Nat), .int .i32 I.gsc, .int .i32 (I.N : Nat)] 66 (i := 1) rfl
  have n2 : (w.alloc (.cells #[.slice I.lA I.ll I.lc, .slice (some ⟨hB0, 0, none⟩) I.N hc0, .int .i32 (I.D.asp : Nat), .int .i32 I.asc, .int .i32 I.aAt, .int .i32 (I.D.gsp : Nat), .int .i32 I.gsc, .int .i32 (I.N : Nat)] 66)).cell? ⟨w.heap.size, 2, none⟩ = some (.int .i32 (I.D.asp : Nat)) := cell_new w #[.slice I.lA I.ll I.lc, .slice (some ⟨hB0, 0, none⟩) I.N hc0, .int .i32 (I.D.asp : Nat), .int .i32 I.asc, .int .i32 I.aAt, .int .i32 (I.D.gsp : Nat), .int .i32 I.gsc, .int .i32 (I.N : Nat)] 66 (i := 2) rfl
  have n3 : (w.alloc (.cells #[.slice I.lA I.ll I.lc, .slice (some ⟨hB0, 0, none⟩) I.N hc0, .int .i32 (I.D.asp : Nat), .int .i32 I.asc, .int .i32 I.aAt, .int .i32 (I.D.gsp : Nat), .int .i32 I.gsc, .int .i32 (I.N : Nat)] 66)).cell? ⟨w.heap.size, 3, none⟩ = some (.int .i32 I.asc) := cell_new w #[.slice I.lA I.ll I.lc, .slice (some ⟨hB0, 0, none⟩) I.N hc0, .int .i32 (I.D.asp : Nat), .int .i32 I.asc, .int .i32 I.aAt, .int .i32 (I.D.gsp : Nat), .int .i32 I.gsc, .int .i32 (I.N : Nat)] 66 (i := 3) rfl
  have n4 : (w.alloc (.cells #[.slice I.lA I.ll I.lc, .slice (some ⟨hB0, 0, none⟩) I.N hc0, .int .i32 (I.D.asp : Nat), .int .i32 I.asc, .int .i32 I.aAt, .int .i32 (I.D.gsp : Nat), .int .i32 I.gsc, .int .i32 (I.N : Nat)] 66)).cell? ⟨w.heap.size, 4, none⟩ = some (.int .i32 I.aAt) := cell_new w #[.slice I.lA I.ll I.lc, .slice (some ⟨hB0, 0, none⟩) I.N hc0, .int .i32 (I.D.asp : Nat), .int .i32 I.asc, .int .i32 I.aAt, .int .i32 (I.D.gsp : Nat), .int .i32 I.gsc, .int .i32 (I.N : Nat)] 66 (i := 4) rfl
  have n5 : (w.alloc (.cells #[.slice I.lA I.ll I.lc, .slice (some ⟨hB0, 0, none⟩) I.N hc0, .int .i32 (I.D.asp : Nat), .int .i32 I.asc, .int .i32 I.aAt, .int .i32 (I.D.gsp : Nat), .int .i32 I.gsc, .int .i32 (I.N : Nat)] 66)).cell? ⟨w.heap.size, 5, none⟩ = some (.int .i32 (I.D.gsp : Nat)) := cell_new w #[.slice I.lA I.ll I.lc, .slice (some ⟨hB0, 0, none⟩) I.N hc0, .int .i32 (I.D.asp : Nat), .int .i32 I.asc, .int .i32 I.aAt, .int .i32 (I.D.gsp : Nat), .int .i32 I.gsc, .int .i32 (I.N : Nat)] 66 (i := 5) rfl
  have n6 : (w.alloc (.cells #[.slice I.lA I.ll I.lc, .slice (some ⟨hB0, 0, none⟩) I.N hc0, .int .i32 (I.D.asp : Nat), .int .i32 I.asc, .int .i32 I.aAt, .int .i32 (I.D.gsp : Nat), .int .i32 I.gsc, .int .i32 (I.N : Nat)] 66)).cell? ⟨w.heap.size, 6, none⟩ = some (.int .i32 I.gsc) := cell_new w #[.slice I.lA I.ll I.lc, .slice (some ⟨hB0, 0, none⟩) I.N hc0, .int .i32 (I.D.asp : Nat), .int .i32 I.asc, .int .i32 I.aAt, .int .i32 (I.D.gsp : Nat), .int .i32 I.gsc, .int .i32 (I.N : Nat)] 66 (i := 6) rfl
  have n7 : (w.alloc (.cells #[.slice I.lA I.ll I.lc, .slice (some ⟨hB0, 0, none⟩) I.N hc0, .int .i32 (I.D.asp : Nat), .int .i32 I.asc, .int .i32 I.aAt, .int .i32 (I.D.gsp : Nat), .int .i32 I.gsc, .int .i32 (I.N : Nat)] 66)).cell? ⟨w.heap.size, 7, none⟩ = some (.int .i32 (I.N : Nat)) := cell_new w #[.slice I.lA I.ll I.lc, .slice (some ⟨hB0, 0, none⟩) I.N hc0, .int .i32 (I.D.asp : Nat), .int .i32 I.asc, .int .i32 I.aAt, .int .i32 (I.D.gsp : Nat), .int .i32 I.gsc, .int .i32 (I.N : Nat)] 66 (i := 7) rfl
  have hb1 := bel_alloc (Below.refl w.heap.size w) (.cells #[.slice I.lA I.ll I.lc, .slice (some ⟨hB0, 0, none⟩) I.N hc0, .int .i32 (I.D.asp : Nat), .int .i32 I.asc, .int .i32 I.aAt, .int .i32 (I.D.gsp : Nat), .int .i32 I.gsc, .int .i32 (I.N : Nat)] 66)
  have hX1 := hX.below hb1
  have hlt : w.heap.size < (w.alloc (.cells #[.slice I.lA I.ll I.lc, .slice (some ⟨hB0, 0, none⟩) I.N hc0, .int .i32 (I.D.asp : Nat), .int .i32 I.asc, .int .i32 I.aAt, .int .i32 (I.D.gsp : Nat), .int .i32 I.gsc, .int .i32 (I.N : Nat)] 66)).heap.size := by rw [alloc_size]; omega
  have hM : MV I.D (w.alloc (.cells #[.slice I.lA I.ll I.lc, .slice (some ⟨hB0, 0, none⟩) I.N hc0, .int .i32 (I.D.asp : Nat), .int .i32 I.asc, .int .i32 I.aAt, .int .i32 (I.D.gsp : Nat), .int .i32 I.gsc, .int .i32 (I.N : Nat)] 66)) w.heap.size := ⟨hlt, ⟨_, _, I.A, I.cc, n0, (hI.below hX1.bel).lv⟩, ⟨hB0, hc0, n1, (hX1.c4.fh.lt hB0 rfl).2, handAt_own (D := I.D) hX1.c4.fh⟩, n2, n3, n4, n5, n6, n7⟩
  clear n0 n1 n2 n3 n4 n5 n6 n7 hb1 hX hlt
  generalize (w.alloc (.cells #[.slice I.lA I.ll I.lc, .slice (some ⟨hB0, 0, none⟩) I.N hc0, .int .i32 (I.D.asp : Nat), .int .i32 I.asc, .int .i32 I.aAt, .int .i32 (I.D.gsp : Nat), .int .i32 I.gsc, .int .i32 (I.N : Nat)] 66)) = w1 at *
  generalize w.heap.size = mB at *
  clear w
  obtain ⟨ra, rcc, hrv⟩ : ∃ a c, r0 = .slice a I.R0.length c := by
    rcases own_slice hX1.c4.fr with ⟨h1, h2⟩ | ⟨g, cap, h2, -, -⟩
    · exact ⟨none, 0, by rw [h2]; exact h1⟩
    · exact ⟨_, _, h2⟩
  replace hK := hK.sub (M := (50, ptr mB) :: (46, .int .i32 (I.D.asp : Nat)) :: (45, ptr arB) :: (44, r0) :: (43, .slice (some ⟨hB0, 0, none⟩) I.N hc0) :: (42, l0) :: (41, e0) :: (21, .int .i32 I.N) :: LA I) ⟨rfl, rfl, rfl, rfl, rfl, rfl, rfl, rfl, rfl, rfl, rfl, rfl, rfl, rfl, rfl, rfl, rfl, rfl, trivial⟩
  refine wp_seq ?_
  refine wp_region_lit ?_
  refine kl hK 314 rfl (by decide) rfl (fun ρ hρ => r_mv _ rfl (hρ _ _ rfl)) ?_
  clear hK a; intro a hK
  refine kl hK 315 rfl (by decide) rfl (fun ρ hρ => r_make1 33 21 (.int .i32 0) 4 rfl (by decide) Yba.underlying33 info21' _ _ rfl (by omega) (hρ _ _ rfl) (hρ _ _ rfl)) ?_
  clear hK a; intro a hK
  refine kl hK 51 rfl (by decide) rfl (fun ρ hρ => r_as _ rfl (hρ _ _ rfl)) ?_
  clear hK a; intro a hK
  refine wpList_nil ?_
  show Code.wp Yba.prog _ _ _ _
  have hbA := bel_alloc (Below.refl w1.heap.size w1) (.cells (madeCells #[.int .i32 0] I.N) 21)
  have hrow := World.rowIs_made w1 (.int .i32 0) I.N 21
  generalize w1.alloc (.cells (madeCells #[.int .i32 0] I.N) 21) = w2 at *
  rw [hrv] at hK
  refine wp_seq ?_
  refine wp_seq ?_
  refine wp_region_lit ?_
  refine kl hK 316 rfl (by decide) rfl (fun ρ hρ => r_mv _ rfl (hρ _ _ rfl)) ?_
  clear hK a; intro a hK
  refine kl hK 317 rfl (by decide) rfl (fun ρ hρ => r_len41 _ rfl (hρ _ _ rfl)) ?_
  clear hK a; intro a hK
  refine kl hK 318 rfl (by decide) rfl (fun ρ hρ => r_mv _ rfl (hρ _ _ rfl)) ?_
  clear hK a; intro a hK
  refine wpList_nil ?_
  show Code.wp Yba.prog _ _ _ _
  rw [← hrv] at hK
  refine lp10 I mB arB hB0 hc0 l0 e0 I.R0 (rsK_wf I I.lr) w1 B r0 hX1.c4.fr w1.heap.size (Nat.le_refl _) _ _ ?_ a w2 (hK.sub ⟨rfl, by rw [hrv]; rfl, rfl, rfl, rfl, rfl, rfl, rfl, rfl, rfl, rfl, rfl, rfl, rfl, rfl, rfl, rfl, rfl, rfl, rfl, rfl, rfl, trivial⟩) hbA hrow
  clear hK a hrow hbA w2
  intro a w2 hK hbA hrow
  exact hnext a w2 mB _ (hK.sub ⟨rfl, rfl, rfl, rfl, rfl, rfl, rfl, rfl, rfl, rfl, rfl, rfl, rfl, rfl, rfl, rfl, rfl, rfl, rfl, trivial⟩) ⟨hX1.below hbA, hM.below hbA, hrow⟩

/-! ### what the law expects -/
section
variable (D : PD) (R : List Rs)
def rc0 (p : Nat) : Int := ((R[ix R p - 1]?).map Rs.cnt).getD 0
def low (p : Nat) : Bool := (decide (0 < ix R p) && decide (rc0 R p < D.hcnt p)) || ((D.lkp p).2 && decide ((D.lkp p).1 < D.hcnt p))
def alow (p : Nat) : Bool := !decide (D.off p D.gAt) && low D R p
def fired (p : Nat) : Bool := alow D R p && decide (D.hpos p ≤ D.cval (D.hto p))
def qk : Nat → Nat → Bool
  | 0, _ => false
  | p + 1, x => if alow D R p = true ∧ D.hto p = x then true else qk p x
def anyk : Nat → Bool
  | 0 => false
  | p + 1 => if alow D R p = true then true else anyk p
end
section
variable {P : Program} {ops : Array Oper} {C : World → Prop} {QA : Act → Prop} {a : Act} {o : Oper} {rest : List Oper} {n : Nat} {L : List (Nat × Value)} {pol : Bool}
theorem kqn (hK : Kn n L a) (d k g : Nat) (hd : o.dst = some d) (hn : d < n) (hg : o.guard = some (k, pol)) (hk' : (ops[k]?).bind (·.dst) = some g) (hv : lk L g = some undef) (hk : ∀ a', Kn n ((d, undef) :: L) a' → wpQuiet P ops C QA rest a') : wpQuiet P ops C QA (o :: rest) a :=
  BigFrame.wpQuiet_skip (by
    have h := hK.get _ _ hv
    unfold Region.wanted yielded
    rw [hg]
    simp only [hk', Option.bind_some, h]
    rfl) (by rw [hd]; exact hk _ (hK.put hn undef))
end

end Go.Proofs.Ybulkexuo
