import Derived.Test.YbulkexuoP7
namespace Go.Proofs.Ybulkexuo
open Go.RowKit
set_option linter.unusedSimpArgs false
set_option linter.unusedVariables false


/-- after the entries are checked -/
structure FX (I : IN) (w0 : World) (F : Nat → Prop) (arB : Nat) (st : ST) (B : Nat) (e0 l0 : Value) (hB0 hc0 : Nat) (r0 : Value) (w : World) : Prop where
  bel : Below w0.heap.size w0 w
  arb : ARB I.D F w0.heap.size arB st (fin I.D (I.R0, none)).1 (fin I.D (I.R0, none)).2 w
  c4 : C4 I B e0 l0 hB0 hc0 r0 w
theorem FX.below {I : IN} {w0 : World} {F : Nat → Prop} {arB : Nat} {st : ST} {B : Nat} {e0 l0 : Value} {hB0 hc0 : Nat} {r0 : Value} {w w' : World} (h : FX I w0 F arB st B e0 l0 hB0 hc0 r0 w) (hb : Below w.heap.size w w') : FX I w0 F arB st B e0 l0 hB0 hc0 r0 w' := ⟨bel_trans h.bel hb, h.arb.below hb, h.c4.below hb⟩


set_option maxRecDepth 100000 in
set_option maxHeartbeats 1000000 in
theorem y18 (I : IN) (w0 : World) (hF : I.Fine) (hll : I.ll ≤ 4096) (w : World) (HB : Nat) (eV lV rV raV : Value) (hB : B14 I w0 HB eV lV rV raV w) (B : Nat) (e0 l0 : Value) (hB0 hc0 : Nat) (r0 : Value) (hBB : w0.heap.size ≤ B) (hC : C4 I B e0 l0 hB0 hc0 r0 w) (hrB : ∀ b, rV.ownBlock = some b → b < B) (hnext : ∀ a w F arB st, Kn 706 ((47, .int .i32 (I.D.gsp : Nat)) :: (46, .int .i32 (I.D.asp : Nat)) :: (45, ptr arB) :: (44, r0) :: (43, .slice (some ⟨hB0, 0, none⟩) I.N hc0) :: (42, l0) :: (41, e0) :: (21, .int .i32 I.N) :: LA I) a → FX I w0 F arB st B e0 l0 hB0 hc0 r0 w → Code.wp Yba.prog (nav [1, 1, 1, 1, 1, 1, 1, 1, 1, 1, 1, 1, 1, 1, 1, 1, 1, 1, 1, 1, 1, 1, 1, 1] (Yba.f3.body.getD .skip)) (bodyPost Yba.prog Yba.f3 (Post w0)) a w) (a : Act) (hK : Kn 706 ((44, r0) :: (43, .slice (some ⟨hB0, 0, none⟩) I.N hc0) :: (42, l0) :: (41, e0) :: (34, raV) :: (33, rV) :: (26, lV) :: (25, eV) :: (22, .slice (some ⟨HB, 0, none⟩) I.N I.N) :: (21, .int .i32 I.N) :: LA I) a) :
    Code.wp Yba.prog (nav [1, 1, 1, 1, 1, 1, 1, 1, 1, 1, 1, 1, 1, 1, 1, 1, 1, 1] (Yba.f3.body.getD .skip)) (bodyPost Yba.prog Yba.f3 (Post w0)) a w := by
  have hN := I.N_le
  have hN1 := I.N_pos
  have haP := hF.aP
  have hgP := hF.gP
  have haP' := Nat.mod_lt I.aP hN1
  have hgP' := Nat.mod_lt I.gP hN1
  obtain ⟨ea, ec, hev⟩ : ∃ a c, eV = .slice a (I.D.eo I.ll) c := by
    rcases own_slice hB.ent with ⟨h1, h2⟩ | ⟨g, cap, h2, -, -⟩
    · exact ⟨none, 0, by rw [h2]; exact h1⟩
    · exact ⟨_, _, h2⟩
  obtain ⟨la, lcc, hlv⟩ : ∃ a c, lV = .slice a I.ll c := by
    rcases own_slice hB.lev with ⟨h1, h2⟩ | ⟨g, cap, h2, -, -⟩
    · exact ⟨none, 0, by rw [h2]; exact h1⟩
    · exact ⟨_, _, h2⟩
  obtain ⟨ra, rcc, hrv⟩ : ∃ a c, rV = .slice a I.R0.length c := by
    rcases own_slice hB.rs with ⟨h1, h2⟩ | ⟨g, cap, h2, -, -⟩
    · exact ⟨none, 0, by rw [h2]; exact h1⟩
    · exact ⟨_, _, h2⟩
  obtain ⟨pa, pm, pc, hpv⟩ : ∃ p m c, raV = .slice p m c := by
    rcases hB.ra with h | ⟨b, h, _⟩
    · exact ⟨_, _, _, h.1⟩
    · exact ⟨_, _, _, h⟩
  subst hev hlv hrv hpv
  conv => arg 2; whnf
  refine wp_seq ?_
  refine wp_region_lit ?_
  refine kl hK 262 rfl (by decide) rfl (fun ρ hρ => r_mv _ rfl (hρ _ _ rfl)) ?_
  clear hK a; intro a hK
  refine kl hK 263 rfl (by decide) rfl (fun ρ hρ => r_mv _ rfl (hρ _ _ rfl)) ?_
  clear hK a; intro a hK
  refine kl hK 264 rfl (by decide) rfl (fun ρ hρ => r_b53_01 _ _ rfl (hρ _ _ rfl) (hρ _ _ rfl)) ?_
  clear hK a; intro a hK
  refine kl hK 265 rfl (by decide) rfl (fun ρ hρ => r_mv _ rfl (hρ _ _ rfl)) ?_
  clear hK a; intro a hK
  refine kl hK 266 rfl (by decide) rfl (fun ρ hρ => r_mv _ rfl (hρ _ _ rfl)) ?_
  clear hK a; intro a hK
  refine kl hK 267 rfl (by decide) rfl (fun ρ hρ => r_mv _ rfl (hρ _ _ rfl)) ?_
  clear hK a; intro a hK
  refine kl hK 268 rfl (by decide) rfl (fun ρ hρ => r_b56_1291012c _ _ _ _ rfl (hρ _ _ rfl) (hρ _ _ rfl) (hρ _ _ rfl) (hρ _ _ rfl) (hρ _ _ rfl)) ?_
  clear hK a; intro a hK
  refine kl hK 269 rfl (by decide) rfl (fun ρ hρ => r_box56 _ rfl (hρ _ _ rfl)) ?_
  clear hK a; intro a hK
  refine kl hK 45 rfl (by decide) rfl (fun ρ hρ => r_as _ rfl (hρ _ _ rfl)) ?_
  clear hK a; intro a hK
  refine wpList_nil ?_
  show Code.wp Yba.prog _ _ _ (w.alloc (.cells (CA (.slice ea (I.D.eo I.ll) ec) (.slice la I.ll lcc) (.slice (some ⟨HB, 0, none⟩) I.N I.N) (.slice ra I.R0.length rcc) (.slice pa pm pc)) 56))
  have har : (w.alloc (.cells (CA (.slice ea (I.D.eo I.ll) ec) (.slice la I.ll lcc) (.slice (some ⟨HB, 0, none⟩) I.N I.N) (.slice ra I.R0.length rcc) (.slice pa pm pc)) 56)).rowIs w.heap.size 56 19 (fun j => (((CA (.slice ea (I.D.eo I.ll) ec) (.slice la I.ll lcc) (.slice (some ⟨HB, 0, none⟩) I.N I.N) (.slice ra I.R0.length rcc) (.slice pa pm pc)))[j]?).getD undef) := World.rowIs_alloc w (CA (.slice ea (I.D.eo I.ll) ec) (.slice la I.ll lcc) (.slice (some ⟨HB, 0, none⟩) I.N I.N) (.slice ra I.R0.length rcc) (.slice pa pm pc)) 56 _ fun i hi => by rw [Array.getElem?_eq_getElem hi]; rfl
  have hbw1 := bel_alloc (Below.refl w.heap.size w) (.cells (CA (.slice ea (I.D.eo I.ll) ec) (.slice la I.ll lcc) (.slice (some ⟨HB, 0, none⟩) I.N I.N) (.slice ra I.R0.length rcc) (.slice pa pm pc)) 56)
  generalize (w.alloc (.cells (CA (.slice ea (I.D.eo I.ll) ec) (.slice la I.ll lcc) (.slice (some ⟨HB, 0, none⟩) I.N I.N) (.slice ra I.R0.length rcc) (.slice pa pm pc)) 56)) = w1 at *
  have hB1 := hB.below hbw1
  have hC1 := hC.below hbw1
  have harS : w0.heap.size ≤ w.heap.size := hB.bel.size
  generalize w.heap.size = arB at har harS hK
  replace hK := hK.sub (M := (45, ptr arB) :: (44, r0) :: (43, .slice (some ⟨hB0, 0, none⟩) I.N hc0) :: (42, l0) :: (41, e0) :: (26, (.slice la I.ll lcc)) :: (21, .int .i32 I.N) :: LA I) ⟨rfl, rfl, rfl, rfl, rfl, rfl, rfl, rfl, rfl, rfl, rfl, rfl, rfl, rfl, rfl, rfl, rfl, trivial⟩
  refine wp_seq ?_
  refine wp_region_lit ?_
  refine kl hK 270 rfl (by decide) rfl (fun ρ hρ => r_mv _ rfl (hρ _ _ rfl)) ?_
  clear hK a; intro a hK
  refine kl hK 271 rfl (by decide) rfl (fun ρ hρ => r_cn5_30 _ rfl (by omega) (hρ _ _ rfl)) ?_
  clear hK a; intro a hK
  refine kl hK 272 rfl (by decide) rfl (fun ρ hρ => r_mv _ rfl (hρ _ _ rfl)) ?_
  clear hK a; intro a hK
  refine kl hK 273 rfl (by decide) rfl (fun ρ hρ => r_cn21_30 _ rfl (by omega) (hρ _ _ rfl)) ?_
  clear hK a; intro a hK
  refine kl hK 274 rfl (by decide) rfl (fun ρ hρ => r_rem30 _ _ rfl hN1 (hρ _ _ rfl) (hρ _ _ rfl)) ?_
  clear hK a; intro a hK
  refine kl hK 275 rfl (by decide) rfl (fun ρ hρ => r_cn30_21 _ rfl (by omega) (hρ _ _ rfl)) ?_
  clear hK a; intro a hK
  refine kl hK 46 rfl (by decide) rfl (fun ρ hρ => r_as _ rfl (hρ _ _ rfl)) ?_
  clear hK a; intro a hK
  refine wpList_nil ?_
  show Code.wp Yba.prog _ _ _ _
  refine wp_seq ?_
  refine wp_region_lit ?_
  refine kl hK 276 rfl (by decide) rfl (fun ρ hρ => r_mv _ rfl (hρ _ _ rfl)) ?_
  clear hK a; intro a hK
  refine kl hK 277 rfl (by decide) rfl (fun ρ hρ => r_cn5_30 _ rfl (by omega) (hρ _ _ rfl)) ?_
  clear hK a; intro a hK
  refine kl hK 278 rfl (by decide) rfl (fun ρ hρ => r_mv _ rfl (hρ _ _ rfl)) ?_
  clear hK a; intro a hK
  refine kl hK 279 rfl (by decide) rfl (fun ρ hρ => r_cn21_30 _ rfl (by omega) (hρ _ _ rfl)) ?_
  clear hK a; intro a hK
  refine kl hK 280 rfl (by decide) rfl (fun ρ hρ => r_rem30 _ _ rfl hN1 (hρ _ _ rfl) (hρ _ _ rfl)) ?_
  clear hK a; intro a hK
  refine kl hK 281 rfl (by decide) rfl (fun ρ hρ => r_cn30_21 _ rfl (by omega) (hρ _ _ rfl)) ?_
  clear hK a; intro a hK
  refine kl hK 47 rfl (by decide) rfl (fun ρ hρ => r_as _ rfl (hρ _ _ rfl)) ?_
  clear hK a; intro a hK
  refine wpList_nil ?_
  show Code.wp Yba.prog _ _ _ _
  replace hK := hK.sub (M := (47, .int .i32 (I.D.gsp : Nat)) :: (46, .int .i32 (I.D.asp : Nat)) :: (45, ptr arB) :: (44, r0) :: (43, .slice (some ⟨hB0, 0, none⟩) I.N hc0) :: (42, l0) :: (41, e0) :: (26, (.slice la I.ll lcc)) :: (21, .int .i32 I.N) :: LA I) ⟨rfl, rfl, rfl, rfl, rfl, rfl, rfl, rfl, rfl, rfl, rfl, rfl, rfl, rfl, rfl, rfl, rfl, rfl, rfl, trivial⟩
  refine wp_seq ?_
  refine wp_region_lit ?_
  refine kl hK 282 rfl (by decide) rfl (fun ρ hρ => r_mv _ rfl (hρ _ _ rfl)) ?_
  clear hK a; intro a hK
  refine kl hK 283 rfl (by decide) rfl (fun ρ hρ => r_mv _ rfl (hρ _ _ rfl)) ?_
  clear hK a; intro a hK
  refine kl hK 284 rfl (by decide) rfl (fun ρ hρ => r_len32 _ rfl (hρ _ _ rfl)) ?_
  clear hK a; intro a hK
  refine kl hK 285 rfl (by decide) rfl (fun ρ hρ => r_cn3_21 _ rfl (by omega) (hρ _ _ rfl)) ?_
  clear hK a; intro a hK
  refine kl hK 286 rfl (by decide) rfl (fun ρ hρ => r_b40_0c1 _ rfl (hρ _ _ rfl) (hρ _ _ rfl)) ?_
  clear hK a; intro a hK
  refine kl hK 287 rfl (by decide) rfl (fun ρ hρ => r_mv _ rfl (hρ _ _ rfl)) ?_
  clear hK a; intro a hK
  refine kl hK 288 rfl (by decide) rfl (fun ρ hρ => r_mv _ rfl (hρ _ _ rfl)) ?_
  clear hK a; intro a hK
  refine kl hK 289 rfl (by decide) rfl (fun ρ hρ => r_b38_01 _ _ rfl (hρ _ _ rfl) (hρ _ _ rfl)) ?_
  clear hK a; intro a hK
  refine kl hK 290 rfl (by decide) rfl (fun ρ hρ => r_mv _ rfl (hρ _ _ rfl)) ?_
  clear hK a; intro a hK
  refine kl hK 291 rfl (by decide) rfl (fun ρ hρ => r_b58_0123 _ _ _ _ rfl (hρ _ _ rfl) (hρ _ _ rfl) (hρ _ _ rfl) (hρ _ _ rfl)) ?_
  clear hK a; intro a hK
  refine kl hK 48 rfl (by decide) rfl (fun ρ hρ => r_al58 rfl) ?_
  clear hK a; intro a hK
  refine kst hK rfl rfl (fun ρ hρ => r_st58 (w := w1) _ _ rfl (hρ _ _ rfl) (hρ _ _ rfl)) ?_
  refine wpList_nil ?_
  show Code.wp Yba.prog _ _ _ (w1.alloc (.cells (I.D.clk arB) 58))
  have hck : (w1.alloc (.cells (I.D.clk arB) 58)).rowIs w1.heap.size 58 6 (fun j => (((I.D.clk arB))[j]?).getD undef) := World.rowIs_alloc w1 (I.D.clk arB) 58 _ fun i hi => by rw [Array.getElem?_eq_getElem hi]; rfl
  have hbw2 := bel_alloc (Below.refl w1.heap.size w1) (.cells (I.D.clk arB) 58)
  generalize (w1.alloc (.cells (I.D.clk arB) 58)) = w2 at *
  have hB2 := hB1.below hbw2
  have hC2 := hC1.below hbw2
  have har2 := har.of_block (hbw2.block _ har.lt)
  generalize w1.heap.size = cB at hck hK
  replace hK := hK.sub (M := (48, ptr cB) :: (47, .int .i32 (I.D.gsp : Nat)) :: (46, .int .i32 (I.D.asp : Nat)) :: (45, ptr arB) :: (44, r0) :: (43, .slice (some ⟨hB0, 0, none⟩) I.N hc0) :: (42, l0) :: (41, e0) :: (21, .int .i32 I.N) :: LA I) ⟨rfl, rfl, rfl, rfl, rfl, rfl, rfl, rfl, rfl, rfl, rfl, rfl, rfl, rfl, rfl, rfl, rfl, rfl, rfl, trivial⟩
  have c0 : w2.cell? ⟨cB, 0, none⟩ = some (ptr arB) := hck.cell (i := 0) (by omega)
  have c1 : w2.cell? ⟨cB, 1, none⟩ = some (.int .i32 0) := hck.cell (i := 1) (by omega)
  have c2 : w2.cell? ⟨cB, 2, none⟩ = some (.int .i32 (I.ll : Nat)) := hck.cell (i := 2) (by omega)
  have c3 : w2.cell? ⟨cB, 3, none⟩ = some (.int .i32 (I.D.asp : Nat)) := hck.cell (i := 3) (by omega)
  have c4 : w2.cell? ⟨cB, 4, none⟩ = some (.int .i32 I.asc) := hck.cell (i := 4) (by omega)
  have c5 : w2.cell? ⟨cB, 5, none⟩ = some (.int .i32 I.aAt) := hck.cell (i := 5) (by omega)
  refine wp_seq ?_
  refine wp_region_lit ?_
  refine kl hK 292 rfl (by decide) rfl (fun ρ hρ => r_mv _ rfl (hρ _ _ rfl)) ?_
  clear hK a; intro a hK
  refine kl hK 293 rfl (by decide) rfl (fun ρ hρ => r_ld58z _ rfl (hρ _ _ rfl) c0 c1 c2 c3 c4 c5) ?_
  clear hK a; intro a hK
  refine kl hK 294 rfl (by decide) rfl (fun ρ hρ => r_mv _ rfl (hρ _ _ rfl)) ?_
  clear hK a; intro a hK
  refine kl hK 295 rfl (by decide) rfl (fun ρ hρ => r_mv _ rfl (hρ _ _ rfl)) ?_
  clear hK a; intro a hK
  refine kl hK 296 rfl (by decide) rfl (fun ρ hρ => r_b38_01 _ _ rfl (hρ _ _ rfl) (hρ _ _ rfl)) ?_
  clear hK a; intro a hK
  refine kl hK 297 rfl (by decide) rfl (fun ρ hρ => r_mv _ rfl (hρ _ _ rfl)) ?_
  clear hK a; intro a hK
  refine kl hK 298 rfl (by decide) rfl (fun ρ hρ => r_b62_0124 _ _ _ _ rfl (hρ _ _ rfl) (hρ _ _ rfl) (hρ _ _ rfl) (hρ _ _ rfl)) ?_
  clear hK a; intro a hK
  refine kl hK 299 rfl (by decide) rfl (fun ρ hρ => r_box62 _ rfl (hρ _ _ rfl)) ?_
  clear hK a; intro a hK
  refine kl hK 49 rfl (by decide) rfl (fun ρ hρ => r_as _ rfl (hρ _ _ rfl)) ?_
  clear hK a; intro a hK
  refine wpList_nil ?_
  show Code.wp Yba.prog _ _ _ (w2.alloc (.cells (I.D.gC arB) 62))
  have hgv : (w2.alloc (.cells (I.D.gC arB) 62)).rowIs w2.heap.size 62 11 (fun j => (((I.D.gC arB))[j]?).getD undef) := World.rowIs_alloc w2 (I.D.gC arB) 62 _ fun i hi => by rw [Array.getElem?_eq_getElem hi]; rfl
  have hbw3 := bel_alloc (Below.refl w2.heap.size w2) (.cells (I.D.gC arB) 62)
  generalize (w2.alloc (.cells (I.D.gC arB) 62)) = w3 at *
  have hB3 := hB2.below hbw3
  have hC3 := hC2.below hbw3
  have har3 := har2.of_block (hbw3.block _ har2.lt)
  have hck3 := hck.of_block (hbw3.block _ hck.lt)
  generalize w2.heap.size = gB at hgv hK
  have d0 : w3.cell? ⟨cB, 0, none⟩ = some (ptr arB) := hck3.cell (i := 0) (by omega)
  have d1 : w3.cell? ⟨cB, 1, none⟩ = some (.int .i32 0) := hck3.cell (i := 1) (by omega)
  have d2 : w3.cell? ⟨cB, 2, none⟩ = some (.int .i32 (I.ll : Nat)) := hck3.cell (i := 2) (by omega)
  have d3 : w3.cell? ⟨cB, 3, none⟩ = some (.int .i32 (I.D.asp : Nat)) := hck3.cell (i := 3) (by omega)
  have d4 : w3.cell? ⟨cB, 4, none⟩ = some (.int .i32 I.asc) := hck3.cell (i := 4) (by omega)
  have d5 : w3.cell? ⟨cB, 5, none⟩ = some (.int .i32 I.aAt) := hck3.cell (i := 5) (by omega)
  obtain ⟨hA, hgF⟩ := arb_new I w0 w3 HB _ _ _ _ hB3 arB gB har3 hgv
  have hty : ∀ b c t, w3.heap[b]? = some (.cells c t (0, 0)) → t ≠ 56 → t ≠ 46 → t ≠ 21 → ¬ TSet arB ⟨(.slice ra I.R0.length rcc), (.slice pa pm pc), .slice none 0 0, .slice none 0 0⟩ b := fun b c t h1 h2 h3 h4 hT => by
    obtain ⟨c', t', k1, k2⟩ := tset_ty har3 hB3.rs (N := I.N) (f' := fun q => .int .i32 (ix I.R0 q)) (by
      rcases hB3.ra with h | ⟨b, h1, h2, h3, h4⟩
      · exact .inl h.1
      · exact .inr ⟨b, h1, h4⟩) hT
    rw [h1] at k1
    cases k1
    rcases k2 with k2 | k2 | k2
    · exact h2 k2
    · exact h3 k2
    · exact h4 k2
  replace hK := hK.sub (M := (49, ptr gB) :: (48, ptr cB) :: (47, .int .i32 (I.D.gsp : Nat)) :: (46, .int .i32 (I.D.asp : Nat)) :: (45, ptr arB) :: (44, r0) :: (43, .slice (some ⟨hB0, 0, none⟩) I.N hc0) :: (42, l0) :: (41, e0) :: (21, .int .i32 I.N) :: LA I) ⟨rfl, rfl, rfl, rfl, rfl, rfl, rfl, rfl, rfl, rfl, rfl, rfl, rfl, rfl, rfl, rfl, rfl, rfl, rfl, rfl, trivial⟩
  refine wp_seq ?_
  refine wp_region_lit ?_
  refine kl hK 300 rfl (by decide) rfl (fun ρ hρ => r_mv _ rfl (hρ _ _ rfl)) ?_
  clear hK a; intro a hK
  refine kl hK 301 rfl (by decide) rfl (fun ρ hρ => (r_ld58z (v0 := ptr arB) (v1 := .int .i32 0) (v2 := .int .i32 (I.ll : Nat)) (v3 := .int .i32 (I.D.asp : Nat)) (v4 := .int .i32 I.asc) (v5 := .int .i32 I.aAt) _ rfl (hρ _ _ rfl) d0 d1 d2 d3 d4 d5)) ?_
  clear hK a; intro a hK
  refine kl hK 302 rfl (by decide) rfl (fun ρ hρ => r_mv _ rfl (hρ _ _ rfl)) ?_
  clear hK a; intro a hK
  refine kc hK 303 rfl (by decide) rfl (fun ρ hρ => r_call9 _ _ _ rfl (hρ _ _ rfl) (hρ _ _ rfl) (hρ _ _ rfl) (hρ _ _ rfl)) (checkEntries_any I.D (I.fine hF hll) _ w0.heap.size arB gB hgF _ (I.R0, none) w3 hA hgv) ?_
  rintro e w4 ⟨rfl, st', hA', hStep⟩
  refine ⟨_, rfl, ?_⟩
  clear hK a; intro a hK
  refine wpList_nil ?_
  show Code.wp Yba.prog _ _ _ _
  refine hnext a w4 _ arB st' (hK.sub ⟨rfl, rfl, rfl, rfl, rfl, rfl, rfl, rfl, rfl, rfl, rfl, rfl, rfl, rfl, rfl, rfl, rfl, rfl, trivial⟩) ⟨?_, hA', hC3.move fun b hlt hb => hStep.1.block b hlt ?_⟩
  · refine hStep.1.below hB3.bel hB3.bel.size fun b hlt hT => ?_
    rcases hT with rfl | h | h | h | h
    · exact harS
    · exact (hB3.rs.lt b h).1
    · rcases hB3.ra with ⟨e, _⟩ | ⟨b', e, h2, h3, h4⟩
      · have h' : ((.slice pa pm pc) : Value).ownBlock = some b := h
        rw [e] at h'
        cases h'
      · have h' : ((.slice pa pm pc) : Value).ownBlock = some b := h
        rw [e] at h'
        cases h'
        exact h3
    · cases h
    · cases h
  · rcases hb with h | h | h | h
    · obtain ⟨c, hc⟩ := own_ty hC3.fe h
      exact hty b c 38 hc (by decide) (by decide) (by decide)
    · obtain ⟨c, hc⟩ := own_ty hC3.fl h
      exact hty b c 40 hc (by decide) (by decide) (by decide)
    · subst h
      obtain ⟨c, hc⟩ := own_ty hC3.fh (b := b) rfl
      exact hty b c 27 hc (by decide) (by decide) (by decide)
    · intro hT
      obtain ⟨c, hc⟩ := own_ty hC3.fr h
      have hge := (hC3.fr.lt b h).1
      rcases hT with rfl | k | k | k | k
      · obtain ⟨c', hc', _⟩ := har3
        rw [hc] at hc'
        cases hc'
      · have := hrB b k
        omega
      · rcases hB3.ra with ⟨e, _⟩ | ⟨b', e, h2, h3, h4⟩
        · have h' : ((.slice pa pm pc) : Value).ownBlock = some b := k
          rw [e] at h'
          cases h'
        · have h' : ((.slice pa pm pc) : Value).ownBlock = some b := k
          rw [e] at h'
          cases h'
          obtain ⟨c', hc', _⟩ := h4
          rw [hc] at hc'
          cases hc'
      · cases k
      · cases k
end Go.Proofs.Ybulkexuo
