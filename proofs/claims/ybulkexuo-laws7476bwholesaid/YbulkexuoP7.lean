import Derived.Test.YbulkexuoP6
namespace Go.Proofs.Ybulkexuo
open Go.RowKit
set_option linter.unusedSimpArgs false
set_option linter.unusedVariables false


theorem entL_one (L : List (Nat × Int)) : ∀ u ∈ entL L, u.oneCell' = true := fun u hu => by
  obtain ⟨e, _, h⟩ := List.mem_flatMap.1 hu
  simp at h
  rcases h with rfl | rfl <;> rfl
theorem levL_one (D : PD) (n : Nat) : ∀ u ∈ levL D n, u.oneCell' = true := fun u hu => by
  obtain ⟨e, _, h⟩ := List.mem_flatMap.1 hu
  simp at h
  rcases h with rfl | rfl <;> rfl
theorem riseL_one (R : List Rs) : ∀ u ∈ riseL R, u.oneCell' = true := fun u hu => by
  obtain ⟨e, _, h⟩ := List.mem_flatMap.1 hu
  simp [riseC] at h
  rcases h with rfl | rfl | rfl | rfl <;> rfl
def handL (D : PD) : List Value := (List.range (D.N * 4)).map fun j => D.hcell (j / 4) (j % 4)
theorem handL_len (D : PD) : (handL D).length = D.N * 4 := by unfold handL; simp
theorem handL_get (D : PD) {j : Nat} (hj : j < D.N * 4) : (handL D)[j]? = some (D.hcell (j / 4) (j % 4)) := by unfold handL; simp [hj]
theorem hcell_one (D : PD) (p j : Nat) : (D.hcell p j).oneCell' = true := by
  unfold PD.hcell
  split <;> rfl
theorem handL_one (D : PD) : ∀ u ∈ handL D, u.oneCell' = true := fun u hu => by
  obtain ⟨e, _, rfl⟩ := List.mem_map.1 hu
  exact hcell_one D _ _
theorem slIn_hand {D : PD} {w : World} {b c : Nat} (h0 : 0 < D.N) (h : HRow D w b D.N) : SlIn w 4 (.slice (some ⟨b, 0, none⟩) D.N c) D.N (handL D) := by
  obtain ⟨f, h1, h2⟩ := h
  refine .inr ⟨_, c, rfl, h0, handL_len D, fun j u hu => ?_, handL_one D⟩
  have hj : j < D.N * 4 := by rw [← handL_len D]; exact (List.getElem?_eq_some_iff.1 hu).1
  rw [handL_get D hj] at hu
  have hadd : (⟨b, 0, none⟩ : Addr).add j = ⟨b, j, none⟩ := by unfold Addr.add; split <;> simp_all
  rw [hadd, h1.cell hj, ← hu, ← h2 (j / 4) (by omega) (j % 4) (by omega), show j / 4 * 4 + j % 4 = j by omega]
theorem handAt_own {D : PD} {w : World} {B0 g cap : Nat} (h : w.ownsRow B0 27 4 (.slice (some ⟨g, 0, none⟩) D.N cap) D.N (handL D)) : HandAt D w g := fun p hp => by
  have k : ∀ i, i < 4 → w.cell? ⟨g, p * 4 + i, none⟩ = some (D.hcell p i) := fun i hi => by
    have := (own_cell h (handL_get D (j := p * 4 + i) (by omega))).1
    rw [show (p * 4 + i) / 4 = p by omega, show (p * 4 + i) % 4 = i by omega] at this
    exact this
  exact ⟨k 0 (by omega), k 1 (by omega), k 2 (by omega), k 3 (by omega)⟩
/-- the clones -/
structure C4 (I : IN) (B : Nat) (e0 l0 : Value) (hB0 hc0 : Nat) (r0 : Value) (w : World) : Prop where
  fe : w.ownsRow B 38 2 e0 (I.D.eo I.ll) (entL (I.D.ent I.ll))
  fl : w.ownsRow B 40 2 l0 I.ll (levL I.D I.ll)
  fh : w.ownsRow B 27 4 (.slice (some ⟨hB0, 0, none⟩) I.N hc0) I.N (handL I.D)
  fr : w.ownsRow B 46 4 r0 I.R0.length (riseL I.R0)
  rne : r0 ≠ .slice none 0 0 → 0 < I.R0.length
theorem C4.move {I : IN} {B : Nat} {e0 l0 : Value} {hB0 hc0 : Nat} {r0 : Value} {w w' : World} (h : C4 I B e0 l0 hB0 hc0 r0 w) (hb : ∀ b, b < w.heap.size → (e0.ownBlock = some b ∨ l0.ownBlock = some b ∨ b = hB0 ∨ r0.ownBlock = some b) → w'.heap[b]? = w.heap[b]?) : C4 I B e0 l0 hB0 hc0 r0 w' :=
  ⟨own_block h.fe fun b k => hb b (h.fe.lt b k).2 (.inl k), own_block h.fl fun b k => hb b (h.fl.lt b k).2 (.inr (.inl k)), own_block h.fh fun b k => hb b (h.fh.lt b k).2 (.inr (.inr (.inl (by cases k; rfl)))), own_block h.fr fun b k => hb b (h.fr.lt b k).2 (.inr (.inr (.inr k))), h.rne⟩
theorem C4.below {I : IN} {B : Nat} {e0 l0 : Value} {hB0 hc0 : Nat} {r0 : Value} {w w' : World} (h : C4 I B e0 l0 hB0 hc0 r0 w) (hb : Below w.heap.size w w') : C4 I B e0 l0 hB0 hc0 r0 w' := h.move fun b hlt _ => hb.block b hlt
theorem own_below {w w' : World} {base : Nat} {e : TypeId} {size : Nat} {v : Value} {n : Nat} {xs : List Value} (h : w.ownsRow base e size v n xs) (hb : Below w.heap.size w w') : w'.ownsRow base e size v n xs := own_block h fun b k => hb.block b (h.lt b k).2


set_option maxRecDepth 100000 in
set_option maxHeartbeats 1000000 in
theorem y14 (I : IN) (w0 : World) (hF : I.Fine) (hll : I.ll ≤ 4096) (w : World) (HB : Nat) (eV lV rV raV : Value) (hB : B14 I w0 HB eV lV rV raV w) (hnext : ∀ a w B e0 l0 hB0 hc0 r0, Kn 706 ((44, r0) :: (43, .slice (some ⟨hB0, 0, none⟩) I.N hc0) :: (42, l0) :: (41, e0) :: (34, raV) :: (33, rV) :: (26, lV) :: (25, eV) :: (22, .slice (some ⟨HB, 0, none⟩) I.N I.N) :: (21, .int .i32 I.N) :: LA I) a → B14 I w0 HB eV lV rV raV w → w0.heap.size ≤ B → C4 I B e0 l0 hB0 hc0 r0 w → (∀ b, rV.ownBlock = some b → b < B) → Code.wp Yba.prog (nav [1, 1, 1, 1, 1, 1, 1, 1, 1, 1, 1, 1, 1, 1, 1, 1, 1, 1] (Yba.f3.body.getD .skip)) (bodyPost Yba.prog Yba.f3 (Post w0)) a w) (a : Act) (hK : Kn 706 ((34, raV) :: (33, rV) :: (26, lV) :: (25, eV) :: (22, .slice (some ⟨HB, 0, none⟩) I.N I.N) :: (21, .int .i32 I.N) :: LA I) a) :
    Code.wp Yba.prog (nav [1, 1, 1, 1, 1, 1, 1, 1, 1, 1, 1, 1, 1, 1] (Yba.f3.body.getD .skip)) (bodyPost Yba.prog Yba.f3 (Post w0)) a w := by
  have hN := I.N_le
  have hN1 := I.N_pos
  have heo : I.D.eo I.ll ≤ I.ll * 20 := eo_bound hN I.ll
  have hlen := (rsK_wf I I.lr).len
  conv => arg 2; whnf
  refine wp_seq ?_
  refine wp_region_lit ?_
  refine kl hK 254 rfl (by decide) rfl (fun ρ hρ => r_mv _ rfl (hρ _ _ rfl)) ?_
  clear hK a; intro a hK
  refine kc hK 255 rfl (by decide) rfl (fun ρ hρ => r_call5 _ rfl (hρ _ _ rfl) (hρ _ _ rfl)) (clone5 eV (I.D.eo I.ll) (by omega) (entL (I.D.ent I.ll)) w (slIn_of_own hB.ent hB.ene (entL_one _))) ?_
  rintro e w1 ⟨e0, rfl, he0, -, hb1⟩
  refine ⟨_, rfl, ?_⟩
  clear hK a; intro a hK
  refine kl hK 41 rfl (by decide) rfl (fun ρ hρ => r_as _ rfl (hρ _ _ rfl)) ?_
  clear hK a; intro a hK
  refine wpList_nil ?_
  show Code.wp Yba.prog _ _ _ _
  have hB1 := hB.below hb1
  refine wp_seq ?_
  refine wp_region_lit ?_
  refine kl hK 256 rfl (by decide) rfl (fun ρ hρ => r_mv _ rfl (hρ _ _ rfl)) ?_
  clear hK a; intro a hK
  refine kc hK 257 rfl (by decide) rfl (fun ρ hρ => r_call6 _ rfl (hρ _ _ rfl) (hρ _ _ rfl)) (clone6 lV I.ll (by omega) (levL I.D I.ll) w1 (slIn_of_own hB1.lev hB1.lne (levL_one _ _))) ?_
  rintro e w2 ⟨l0, rfl, hl0, -, hb2⟩
  refine ⟨_, rfl, ?_⟩
  clear hK a; intro a hK
  refine kl hK 42 rfl (by decide) rfl (fun ρ hρ => r_as _ rfl (hρ _ _ rfl)) ?_
  clear hK a; intro a hK
  refine wpList_nil ?_
  show Code.wp Yba.prog _ _ _ _
  have hB2 := hB1.below hb2
  refine wp_seq ?_
  refine wp_region_lit ?_
  refine kl hK 258 rfl (by decide) rfl (fun ρ hρ => r_mv _ rfl (hρ _ _ rfl)) ?_
  clear hK a; intro a hK
  refine kc hK 259 rfl (by decide) rfl (fun ρ hρ => r_call7 _ rfl (hρ _ _ rfl) (hρ _ _ rfl)) (clone7 (.slice (some ⟨HB, 0, none⟩) I.N I.N) I.N (by omega) (handL I.D) w2 (slIn_hand (D := I.D) hN1 hB2.hand)) ?_
  rintro e w3 ⟨h0, rfl, hh0, -, hb3⟩
  refine ⟨_, rfl, ?_⟩
  clear hK a; intro a hK
  refine kl hK 43 rfl (by decide) rfl (fun ρ hρ => r_as _ rfl (hρ _ _ rfl)) ?_
  clear hK a; intro a hK
  refine wpList_nil ?_
  show Code.wp Yba.prog _ _ _ _
  have hB3 := hB2.below hb3
  refine wp_seq ?_
  refine wp_region_lit ?_
  refine kl hK 260 rfl (by decide) rfl (fun ρ hρ => r_mv _ rfl (hρ _ _ rfl)) ?_
  clear hK a; intro a hK
  refine kc hK 261 rfl (by decide) rfl (fun ρ hρ => r_call8 _ rfl (hρ _ _ rfl) (hρ _ _ rfl)) (clone8 rV I.R0.length (by have : I.R0.length ≤ I.N := hlen; omega) (riseL I.R0) w3 (slIn_of_own hB3.rs hB3.rne (riseL_one _))) ?_
  rintro e w4 ⟨r0, rfl, hr0, hrn, hb4⟩
  refine ⟨_, rfl, ?_⟩
  clear hK a; intro a hK
  refine kl hK 44 rfl (by decide) rfl (fun ρ hρ => r_as _ rfl (hρ _ _ rfl)) ?_
  clear hK a; intro a hK
  refine wpList_nil ?_
  show Code.wp Yba.prog _ _ _ _
  have hB4 := hB3.below hb4
  obtain ⟨hB0, hc0, hv⟩ : ∃ g cap, h0 = .slice (some ⟨g, 0, none⟩) I.N cap := by
    rcases own_slice hh0 with ⟨_, h2⟩ | ⟨g, cap, h2, -, -⟩
    · omega
    · exact ⟨g, cap, h2⟩
  subst hv
  have hs1 := hb1.size
  have hs2 := hb2.size
  have hs3 := hb3.size
  have hs4 := hb4.size
  have hs0 := hB.bel.size
  refine hnext a w4 w.heap.size e0 l0 hB0 hc0 r0 (hK.sub ⟨rfl, rfl, rfl, rfl, rfl, rfl, rfl, rfl, rfl, rfl, rfl, rfl, rfl, rfl, rfl, rfl, rfl, rfl, rfl, rfl, trivial⟩) hB4 hs0 ⟨own_base (own_below he0 (bel_trans hb2 (bel_trans hb3 hb4))) (Nat.le_refl _), own_base (own_below hl0 (bel_trans hb3 hb4)) hs1, own_base (own_below hh0 hb4) (by omega), own_base hr0 (by omega), fun h => hB.rne fun e => h (hrn.2 e)⟩ fun b k => (hB.rs.lt b k).2
end Go.Proofs.Ybulkexuo
