import Derived.Test.YbulkexuoP4
namespace Go.Proofs.Ybulkexuo
open Go.RowKit
set_option linter.unusedSimpArgs false
set_option linter.unusedVariables false


set_option maxRecDepth 100000 in
set_option maxHeartbeats 1000000 in
theorem lp8 (I : IN) (HB : Nat) (eV lV : Value) (R : List Rs) (hwf : WF I.N R) (wP : World) (base : Nat) (v : Value) (hown : wP.ownsRow base 46 4 v R.length (riseL R)) (tB : Nat) (htB : wP.heap.size ≤ tB) (Q : Exit → Act → World → Prop) (K : Act → World → Prop) (hKK : ∀ a w, Kn 706 ((34, .slice (some ⟨tB, 0, none⟩) I.N I.N) :: (33, v) :: (26, lV) :: (25, eV) :: (22, .slice (some ⟨HB, 0, none⟩) I.N I.N) :: (21, .int .i32 I.N) :: LA I) a → Below wP.heap.size wP w → w.rowIs tB 21 I.N (fun q => .int .i32 (ix R q)) → K a w) (a : Act) (w : World) (hK : Kn 706 ((241, .int .i64 (0 : Nat)) :: (240, .int .i64 R.length) :: (239, v) :: (34, .slice (some ⟨tB, 0, none⟩) I.N I.N) :: (33, v) :: (26, lV) :: (25, eV) :: (22, .slice (some ⟨HB, 0, none⟩) I.N I.N) :: (21, .int .i32 I.N) :: LA I) a) (hb : Below wP.heap.size wP w) (hrow : w.rowIs tB 21 I.N (fun _ => .int .i32 0)) :
    Code.wp Yba.prog (nav [1, 1, 1, 1, 1, 1, 1, 1, 1, 1, 1, 1, 1, 0, 1, 0, 1, 1] (Yba.f3.body.getD .skip)) (Exit.then K Q) a w := by
  have hN := I.N_le
  have hlen := hwf.len
  refine loop_n K (fun n a w => ∃ k, k ≤ R.length ∧ n = R.length - k ∧ Kn 706 ((241, .int .i64 (k : Nat)) :: (240, .int .i64 R.length) :: (239, v) :: (34, .slice (some ⟨tB, 0, none⟩) I.N I.N) :: (33, v) :: (26, lV) :: (25, eV) :: (22, .slice (some ⟨HB, 0, none⟩) I.N I.N) :: (21, .int .i32 I.N) :: LA I) a ∧ Below wP.heap.size wP w ∧ w.rowIs tB 21 I.N (fun q => .int .i32 (plc R k q))) ⟨0, Nat.zero_le _, rfl, hK, hb, rowf hrow fun q _ => by rw [plc_zero]; rfl⟩ ?_
  clear hK hb hrow a w
  rintro n a w T ⟨k, hk, hn, hK, hb, hrow⟩ hR
  refine wp_seq ?_
  refine wp_region_lit ?_
  refine kl hK 242 rfl (by decide) rfl (fun ρ hρ => r_lss3 _ _ rfl (hρ _ _ rfl) (hρ _ _ rfl)) ?_
  clear hK a; intro a hK
  refine wpList_nil ?_
  show Code.wp Yba.prog _ _ _ _
  refine wp_seq ?_
  by_cases hkl : k < R.length
  · obtain ⟨r, hr⟩ : ∃ r, R[k]? = some r := ⟨_, List.getElem?_eq_getElem hkl⟩
    obtain ⟨c0, c1, c2, c3⟩ := riseL_get R k r hr
    have hrN := hwf.lt r (List.mem_of_getElem? hr)
    have hown1 := own_block hown fun b hb' => hb.block b (hown.lt b hb').2
    obtain ⟨g, cap, hv⟩ : ∃ g cap, v = .slice (some ⟨g, 0, none⟩) R.length cap := by
      rcases own_slice hown with ⟨_, h2⟩ | ⟨g, cap, h2, -, -⟩
      · omega
      · exact ⟨g, cap, h2⟩
    rw [hv] at hown1
    replace c0 := (own_cell hown1 c0).1
    replace c1 := (own_cell hown1 c1).1
    replace c2 := (own_cell hown1 c2).1
    replace c3 := (own_cell hown1 c3).1
    refine wp_cond_true (by rw [hK.rho (.tmp 242) _ rfl]; exact congrArg Value.bool (decide_eq_true (by omega))) ?_
    refine wp_skip ?_
    show Code.wp Yba.prog _ _ _ _
    replace hK := hK.sub (M := (241, .int .i64 (k : Nat)) :: (240, .int .i64 R.length) :: (239, .slice (some ⟨g, 0, none⟩) R.length cap) :: (34, .slice (some ⟨tB, 0, none⟩) I.N I.N) :: (33, v) :: (26, lV) :: (25, eV) :: (22, .slice (some ⟨HB, 0, none⟩) I.N I.N) :: (21, .int .i32 I.N) :: LA I) ⟨rfl, rfl, by rw [hv]; rfl, rfl, rfl, rfl, rfl, rfl, rfl, rfl, rfl, rfl, rfl, rfl, rfl, rfl, rfl, rfl, rfl, trivial⟩
    refine wp_seq ?_
    refine wp_block ?_
    refine wp_seq ?_
    refine wp_region_lit ?_
    refine kl hK 243 rfl (by decide) rfl (fun ρ hρ => r_mv _ rfl (hρ _ _ rfl)) ?_
    clear hK a; intro a hK
    refine kl hK 244 rfl (by decide) rfl (fun ρ hρ => r_ix41z _ _ rfl hkl (hρ _ _ rfl) (hρ _ _ rfl)) ?_
    clear hK a; intro a hK
    refine kl hK 245 rfl (by decide) rfl (fun ρ hρ => r_ld46 _ rfl (hρ _ _ rfl) c0 c1 c2 c3) ?_
    clear hK a; intro a hK
    refine kl hK 40 rfl (by decide) rfl (fun ρ hρ => r_al46 rfl) ?_
    clear hK a; intro a hK
    refine kl hK 39 rfl (by decide) rfl (fun ρ hρ => r_as _ rfl (hρ _ _ rfl)) ?_
    clear hK a; intro a hK
    refine kst hK rfl rfl (fun ρ hρ => r_st46 (w := w) _ _ rfl (hρ _ _ rfl) (hρ _ _ rfl)) ?_
    refine wpList_nil ?_
    show Code.wp Yba.prog _ _ _ _
    have n0 := cell_new w #[.int .i32 r.p, .int .i32 r.old, .int .i32 r.cnt, .bool r.by_] 46 (i := 0) rfl
    have hb1 := bel_alloc hb (.cells #[.int .i32 r.p, .int .i32 r.old, .int .i32 r.cnt, .bool r.by_] 46)
    have hrow1 := hrow.of_block ((bel_alloc (Below.refl w.heap.size w) (.cells #[.int .i32 r.p, .int .i32 r.old, .int .i32 r.cnt, .bool r.by_] 46)).block _ hrow.lt)
    clear hb hrow hown1 c0 c1 c2 c3
    generalize w.alloc (.cells #[.int .i32 r.p, .int .i32 r.old, .int .i32 r.cnt, .bool r.by_] 46) = w1 at *
    generalize w.heap.size = xB at *
    refine wp_region_lit ?_
    refine kl hK 246 rfl (by decide) rfl (fun ρ hρ => r_mv _ rfl (hρ _ _ rfl)) ?_
    clear hK a; intro a hK
    refine kl hK 247 rfl (by decide) rfl (fun ρ hρ => r_fo46_0 _ rfl (hρ _ _ rfl)) ?_
    clear hK a; intro a hK
    refine kl hK 248 rfl (by decide) rfl (fun ρ hρ => r_ld21 _ rfl (hρ _ _ rfl) n0) ?_
    clear hK a; intro a hK
    refine kl hK 249 rfl (by decide) rfl (fun ρ hρ => r_mv _ rfl (hρ _ _ rfl)) ?_
    clear hK a; intro a hK
    refine kl hK 250 rfl (by decide) rfl (fun ρ hρ => r_inc3 _ rfl (by omega) (hρ _ _ rfl) (hρ _ _ rfl)) ?_
    clear hK a; intro a hK
    refine kl hK 251 rfl (by decide) rfl (fun ρ hρ => r_cn3_21 _ rfl (by omega) (hρ _ _ rfl)) ?_
    clear hK a; intro a hK
    refine kl hK 252 rfl (by decide) rfl (fun ρ hρ => r_ix33z _ _ rfl hrN (hρ _ _ rfl) (hρ _ _ rfl)) ?_
    clear hK a; intro a hK
    refine kst hK rfl rfl (fun ρ hρ => r_sto21 _ _ rfl (hρ _ _ rfl) (hρ _ _ rfl) (hrow1.cell hrN) (hrow1.frozen _)) ?_
    refine wpList_nil ?_
    show Code.wp Yba.prog _ _ _ _
    refine wp_region_lit ?_
    refine kl hK 253 rfl (by decide) rfl (fun ρ hρ => r_inc3 _ rfl (by omega) (hρ _ _ rfl) (hρ _ _ rfl)) ?_
    clear hK a; intro a hK
    refine kl hK 241 rfl (by decide) rfl (fun ρ hρ => r_mv _ rfl (hρ _ _ rfl)) ?_
    clear hK a; intro a hK
    refine wpList_nil ?_
    exact hR (R.length - (k + 1)) _ _ (by omega) ⟨k + 1, hkl, rfl, hK.sub ⟨rfl, rfl, by rw [hv]; rfl, rfl, rfl, rfl, rfl, rfl, rfl, rfl, rfl, rfl, rfl, rfl, rfl, rfl, rfl, rfl, rfl, trivial⟩, hb1.setCell (p := ⟨tB, r.p, none⟩) htB _, rowf (hrow1.set r.p (.int .i32 ((k + 1 : Nat) : Int))) fun q _ => by
      have := plc_succ hwf hr q
      rw [← this]
      by_cases e : q = r.p <;> simp [e]⟩
  · have hke : k = R.length := by omega
    refine wp_cond_false (by rw [hK.rho (.tmp 242) _ rfl]; exact congrArg Value.bool (decide_eq_false (by omega))) ?_
    refine wp_exit ?_
    subst hke
    exact hKK _ _ (hK.sub ⟨rfl, rfl, rfl, rfl, rfl, rfl, rfl, rfl, rfl, rfl, rfl, rfl, rfl, rfl, rfl, rfl, trivial⟩) hb (rowf hrow fun q _ => by rw [plc_all])

theorem own_base {w : World} {b b' : Nat} {e : TypeId} {s : Nat} {v : Value} {n : Nat} {xs : List Value} (h : w.ownsRow b e s v n xs) (hb : b' ≤ b) : w.ownsRow b' e s v n xs := by
  refine ⟨h.1, ?_⟩
  rcases h.2 with h1 | ⟨g, cap, cur, h1, h2, h3⟩
  · exact .inl h1
  · exact .inr ⟨g, cap, cur, h1, Nat.le_trans hb h2, h3⟩
/-- what is built, ahead of the clones -/
structure B14 (I : IN) (w0 : World) (HB : Nat) (eV lV rV raV : Value) (w : World) : Prop where
  bel : Below w0.heap.size w0 w
  hHB : w0.heap.size ≤ HB
  hand : HRow I.D w HB I.N
  ent : w.ownsRow w0.heap.size 38 2 eV (I.D.eo I.ll) (entL (I.D.ent I.ll))
  ene : eV ≠ .slice none 0 0 → 0 < I.D.eo I.ll
  lev : w.ownsRow w0.heap.size 40 2 lV I.ll (levL I.D I.ll)
  lne : lV ≠ .slice none 0 0 → 0 < I.ll
  rs : w.ownsRow w0.heap.size 46 4 rV I.R0.length (riseL I.R0)
  rne : rV ≠ .slice none 0 0 → 0 < I.R0.length
  ra : (raV = .slice none 0 0 ∧ I.R0 = []) ∨ ∃ b, raV = .slice (some ⟨b, 0, none⟩) I.N I.N ∧ I.R0 ≠ [] ∧ w0.heap.size ≤ b ∧ w.rowIs b 21 I.N (fun q => .int .i32 (ix I.R0 q))


set_option maxRecDepth 100000 in
set_option maxHeartbeats 1000000 in
theorem y9 (I : IN) (w0 : World) (hI : I.At w0) (hF : I.Fine) (hlr : I.lr ≤ 65536) (wS w : World) (HB : Nat) (eV lV : Value) (hbS : Below w0.heap.size w0 wS) (hHB : w0.heap.size ≤ HB) (hH : HRow I.D wS HB I.N) (hHlt : HB < wS.heap.size) (hE : EL2 I.D wS w eV lV (I.D.ent I.ll) I.ll) (hnext : ∀ a w rV raV, Kn 706 ((34, raV) :: (33, rV) :: (26, lV) :: (25, eV) :: (22, .slice (some ⟨HB, 0, none⟩) I.N I.N) :: (21, .int .i32 I.N) :: LA I) a → B14 I w0 HB eV lV rV raV w → Code.wp Yba.prog (nav [1, 1, 1, 1, 1, 1, 1, 1, 1, 1, 1, 1, 1, 1] (Yba.f3.body.getD .skip)) (bodyPost Yba.prog Yba.f3 (Post w0)) a w) (a : Act) (hK : Kn 706 ((26, lV) :: (25, eV) :: (22, .slice (some ⟨HB, 0, none⟩) I.N I.N) :: (21, .int .i32 I.N) :: LA I) a) :
    Code.wp Yba.prog (nav [1, 1, 1, 1, 1, 1, 1, 1, 1] (Yba.f3.body.getD .skip)) (bodyPost Yba.prog Yba.f3 (Post w0)) a w := by
  have hN := I.N_le
  have hN1 := I.N_pos
  have hb0 : Below w0.heap.size w0 w := bel_trans hbS hE.bel
  conv => arg 2; whnf
  refine wp_seq ?_
  refine wp_region_lit ?_
  refine kl hK 33 rfl (by decide) rfl (fun ρ hρ => r_as _ rfl (hρ _ _ rfl)) ?_
  clear hK a; intro a hK
  refine wpList_nil ?_
  show Code.wp Yba.prog _ _ _ _
  refine wp_seq ?_
  refine wp_region_lit ?_
  refine kl hK 34 rfl (by decide) rfl (fun ρ hρ => r_as _ rfl (hρ _ _ rfl)) ?_
  clear hK a; intro a hK
  refine wpList_nil ?_
  show Code.wp Yba.prog _ _ _ _
  refine wp_seq ?_
  refine wp_region_lit ?_
  refine kl hK 200 rfl (by decide) rfl (fun ρ hρ => r_mv _ rfl (hρ _ _ rfl)) ?_
  clear hK a; intro a hK
  refine kl hK 201 rfl (by decide) rfl (fun ρ hρ => r_make1 42 4 (.bool false) 1 rfl (by decide) Yba.underlying42 info4' _ _ rfl (by omega) (hρ _ _ rfl) (hρ _ _ rfl)) ?_
  clear hK a; intro a hK
  refine kl hK 35 rfl (by decide) rfl (fun ρ hρ => r_as _ rfl (hρ _ _ rfl)) ?_
  clear hK a; intro a hK
  refine wpList_nil ?_
  show Code.wp Yba.prog _ _ _ _
  refine wp_seq ?_
  refine wp_seq ?_
  refine wp_region_lit ?_
  refine kl hK 202 rfl (by decide) rfl (fun ρ hρ => r_mv _ rfl (hρ _ _ rfl)) ?_
  clear hK a; intro a hK
  refine kl hK 203 rfl (by decide) rfl (fun ρ hρ => r_len24 _ rfl (hρ _ _ rfl)) ?_
  clear hK a; intro a hK
  refine kl hK 204 rfl (by decide) rfl (fun ρ hρ => r_mv _ rfl (hρ _ _ rfl)) ?_
  clear hK a; intro a hK
  refine wpList_nil ?_
  show Code.wp Yba.prog _ _ _ _
  have hbA := bel_alloc (Below.refl w.heap.size w) (.cells (madeCells #[.bool false] I.N) 4)
  have hr0 : RI I w w.heap.size (.slice none 0 0) 0 (w.alloc (.cells (madeCells #[.bool false] I.N) 4)) := ⟨hbA, rowf (World.rowIs_made w (.bool false) I.N 4) fun q _ => rfl, World.ownsRow_nil _ _ _ _, fun h => absurd rfl h⟩
  generalize w.alloc (.cells (madeCells #[.bool false] I.N) 4) = w1 at *
  refine lp6 I hF hlr HB w (hI.below hb0) w.heap.size (Nat.le_refl _) eV lV _ _ ?_ a w1 _ (hK.sub ⟨rfl, rfl, rfl, rfl, rfl, rfl, rfl, rfl, rfl, rfl, rfl, rfl, rfl, rfl, rfl, rfl, rfl, rfl, rfl, rfl, trivial⟩) hr0
  clear hK hbA hr0 a w1
  intro a w2 rV hK hR
  show Code.wp Yba.prog _ _ _ _
  have hb2 : Below w0.heap.size w0 w2 := bel_trans hb0 hR.bel
  have hown := hR.own
  have hE2 := hE.below hR.bel
  have hHand : HRow I.D w2 HB I.N := by
    obtain ⟨f, h1, h2⟩ := hH
    have h3 := h1.of_block (hE.bel.block HB hHlt)
    exact ⟨f, h3.of_block (hR.bel.block HB h3.lt), h2⟩
  obtain ⟨ra, rcc, hrv⟩ : ∃ ra rc, rV = .slice ra I.R0.length rc := by
    rcases own_slice hown with ⟨h1, h2⟩ | ⟨g, cap, h2, -, -⟩
    · have h3 : I.R0.length = 0 := h2
      exact ⟨none, 0, by rw [h3]; exact h1⟩
    · exact ⟨_, _, h2⟩
  have hlen := (rsK_wf I I.lr).len
  have hB : ∀ raV w3, Below w2.heap.size w2 w3 → ((raV = .slice none 0 0 ∧ I.R0 = []) ∨ ∃ b, raV = .slice (some ⟨b, 0, none⟩) I.N I.N ∧ I.R0 ≠ [] ∧ w0.heap.size ≤ b ∧ w3.rowIs b 21 I.N (fun q => .int .i32 (ix I.R0 q))) → B14 I w0 HB eV lV rV raV w3 := fun raV w3 hb h => by
    have hE3 := hE2.below hb
    refine ⟨bel_trans hb2 hb, hHB, ?_, own_base hE3.ent hbS.size, hE3.ene, own_base hE3.lev hbS.size, hE3.lne, own_base (own_block hown fun b hb' => hb.block b (hown.lt b hb').2) hb0.size, hR.ne, h⟩
    obtain ⟨f, h1, h2⟩ := hHand
    exact ⟨f, h1.of_block (hb.block HB h1.lt), h2⟩
  rw [hrv] at hK
  refine wp_seq ?_
  refine wp_seq ?_
  refine wp_region_lit ?_
  refine kl hK 234 rfl (by decide) rfl (fun ρ hρ => r_mv _ rfl (hρ _ _ rfl)) ?_
  clear hK a; intro a hK
  refine kl hK 235 rfl (by decide) rfl (fun ρ hρ => r_len41 _ rfl (hρ _ _ rfl)) ?_
  clear hK a; intro a hK
  refine kl hK 236 rfl (by decide) rfl (fun ρ hρ => r_gtr3 _ _ rfl (hρ _ _ rfl) (hρ _ _ rfl)) ?_
  clear hK a; intro a hK
  refine wpList_nil ?_
  show Code.wp Yba.prog _ _ _ _
  by_cases h0 : 0 < I.R0.length
  · skip
    refine wp_cond_true (by rw [hK.rho (.tmp 236) _ rfl]; exact congrArg Value.bool (decide_eq_true (by omega))) ?_
    refine wp_seq ?_
    refine wp_region_lit ?_
    refine kl hK 237 rfl (by decide) rfl (fun ρ hρ => r_mv _ rfl (hρ _ _ rfl)) ?_
    clear hK a; intro a hK
    refine kl hK 238 rfl (by decide) rfl (fun ρ hρ => r_make1 33 21 (.int .i32 0) 4 rfl (by decide) Yba.underlying33 info21' _ _ rfl (by omega) (hρ _ _ rfl) (hρ _ _ rfl)) ?_
    clear hK a; intro a hK
    refine kl hK 34 rfl (by decide) rfl (fun ρ hρ => r_as _ rfl (hρ _ _ rfl)) ?_
    clear hK a; intro a hK
    refine wpList_nil ?_
    show Code.wp Yba.prog _ _ _ _
    refine wp_seq ?_
    refine wp_region_lit ?_
    refine kl hK 239 rfl (by decide) rfl (fun ρ hρ => r_mv _ rfl (hρ _ _ rfl)) ?_
    clear hK a; intro a hK
    refine kl hK 240 rfl (by decide) rfl (fun ρ hρ => r_len41 _ rfl (hρ _ _ rfl)) ?_
    clear hK a; intro a hK
    refine kl hK 241 rfl (by decide) rfl (fun ρ hρ => r_mv _ rfl (hρ _ _ rfl)) ?_
    clear hK a; intro a hK
    refine wpList_nil ?_
    show Code.wp Yba.prog _ _ _ _
    have hbA := bel_alloc (Below.refl w2.heap.size w2) (.cells (madeCells #[.int .i32 0] I.N) 21)
    have hrow := World.rowIs_made w2 (.int .i32 0) I.N 21
    generalize w2.alloc (.cells (madeCells #[.int .i32 0] I.N) 21) = w3 at *
    rw [← hrv] at hK
    refine wp_then (lp8 I HB eV lV I.R0 (rsK_wf I I.lr) w2 w.heap.size rV hown w2.heap.size (Nat.le_refl _) _ _ ?_ a w3 (hK.sub ⟨rfl, by rw [hrv]; rfl, rfl, rfl, rfl, rfl, rfl, rfl, rfl, rfl, rfl, rfl, rfl, rfl, rfl, rfl, rfl, rfl, rfl, trivial⟩) hbA hrow)
    clear hK a hrow hbA w3
    intro a w3 hK hbA hrow
    exact hnext a w3 rV _ (hK.sub ⟨rfl, rfl, rfl, rfl, rfl, rfl, rfl, rfl, rfl, rfl, rfl, rfl, rfl, rfl, rfl, rfl, trivial⟩) (hB _ w3 hbA (.inr ⟨_, rfl, fun e => by rw [e] at h0; exact absurd h0 (Nat.lt_irrefl 0), hb2.size, hrow⟩))
  · skip
    refine wp_cond_false (by rw [hK.rho (.tmp 236) _ rfl]; exact congrArg Value.bool (decide_eq_false (by omega))) ?_
    refine wp_skip ?_
    show Code.wp Yba.prog _ _ _ _
    exact hnext a w2 rV _ (hK.sub ⟨rfl, by rw [hrv]; rfl, rfl, rfl, rfl, rfl, rfl, rfl, rfl, rfl, rfl, rfl, rfl, rfl, rfl, rfl, trivial⟩) (hB _ w2 (Below.refl _ _) (.inl ⟨rfl, List.eq_nil_of_length_eq_zero (by omega)⟩))
end Go.Proofs.Ybulkexuo
