import Derived.Test.YbulkexuoP10
namespace Go.Proofs.Ybulkexuo
open Go.RowKit
set_option linter.unusedSimpArgs false
set_option linter.unusedVariables false


structure FQ (I : IN) (w0 : World) (F : Nat → Prop) (arB : Nat) (st : ST) (B : Nat) (e0 l0 : Value) (hB0 hc0 : Nat) (r0 : Value) (mB r0B fB qB : Nat) (w : World) : Prop where
  fm : FM I w0 F arB st B e0 l0 hB0 hc0 r0 mB r0B w
  f : w.rowIs fB 4 I.N (fun q => .bool (fired I.D I.R0 q))
  q : w.rowIs qB 4 I.N (fun x => .bool (qk I.D I.R0 I.N x))
theorem FQ.below {I : IN} {w0 : World} {F : Nat → Prop} {arB : Nat} {st : ST} {B : Nat} {e0 l0 : Value} {hB0 hc0 : Nat} {r0 : Value} {mB r0B fB qB : Nat} {w w' : World} (h : FQ I w0 F arB st B e0 l0 hB0 hc0 r0 mB r0B fB qB w) (hb : Below w.heap.size w w') : FQ I w0 F arB st B e0 l0 hB0 hc0 r0 mB r0B fB qB w' := ⟨h.fm.below hb, h.f.of_block (hb.block _ h.f.lt), h.q.of_block (hb.block _ h.q.lt)⟩


set_option maxRecDepth 100000 in
set_option maxHeartbeats 1000000 in
theorem y27 (I : IN) (w0 : World) (F : Nat → Prop) (arB : Nat) (st : ST) (B : Nat) (e0 l0 : Value) (hB0 hc0 : Nat) (r0 : Value) (mB r0B : Nat) (hF : I.Fine) (hll : I.ll ≤ 4096) (hnext : ∀ a w fB qB, Kn 706 ((56, .bool (anyk I.D I.R0 I.N)) :: (55, .slice (some ⟨qB, 0, none⟩) I.N I.N) :: (54, .slice (some ⟨fB, 0, none⟩) I.N I.N) :: (51, .slice (some ⟨r0B, 0, none⟩) I.N I.N) :: (50, ptr mB) :: (46, .int .i32 (I.D.asp : Nat)) :: (45, ptr arB) :: (44, r0) :: (43, .slice (some ⟨hB0, 0, none⟩) I.N hc0) :: (42, l0) :: (41, e0) :: (21, .int .i32 I.N) :: LA I) a → FQ I w0 F arB st B e0 l0 hB0 hc0 r0 mB r0B fB qB w → Code.wp Yba.prog (nav [1, 1, 1, 1, 1, 1, 1, 1, 1, 1, 1, 1, 1, 1, 1, 1, 1, 1, 1, 1, 1, 1, 1, 1, 1, 1, 1, 1, 1, 1, 1] (Yba.f3.body.getD .skip)) (bodyPost Yba.prog Yba.f3 (Post w0)) a w) (a : Act) (w : World) (hK : Kn 706 ((51, .slice (some ⟨r0B, 0, none⟩) I.N I.N) :: (50, ptr mB) :: (46, .int .i32 (I.D.asp : Nat)) :: (45, ptr arB) :: (44, r0) :: (43, .slice (some ⟨hB0, 0, none⟩) I.N hc0) :: (42, l0) :: (41, e0) :: (21, .int .i32 I.N) :: LA I) a) (hM : FM I w0 F arB st B e0 l0 hB0 hc0 r0 mB r0B w) :
    Code.wp Yba.prog (nav [1, 1, 1, 1, 1, 1, 1, 1, 1, 1, 1, 1, 1, 1, 1, 1, 1, 1, 1, 1, 1, 1, 1, 1, 1, 1, 1] (Yba.f3.body.getD .skip)) (bodyPost Yba.prog Yba.f3 (Post w0)) a w := by
  have hN := I.N_le
  conv => arg 2; whnf
  refine wp_seq ?_
  refine wp_region_lit ?_
  refine kl hK 331 rfl (by decide) rfl (fun ρ hρ => r_mv _ rfl (hρ _ _ rfl)) ?_
  clear hK a; intro a hK
  refine kl hK 332 rfl (by decide) rfl (fun ρ hρ => r_make1 42 4 (.bool false) 1 rfl (by decide) Yba.underlying42 info4' _ _ rfl (by omega) (hρ _ _ rfl) (hρ _ _ rfl)) ?_
  clear hK a; intro a hK
  refine kl hK 54 rfl (by decide) rfl (fun ρ hρ => r_as _ rfl (hρ _ _ rfl)) ?_
  clear hK a; intro a hK
  refine wpList_nil ?_
  show Code.wp Yba.prog _ _ _ _
  have hb1 := bel_alloc (Below.refl w.heap.size w) (.cells (madeCells #[.bool false] I.N) 4)
  have hf := World.rowIs_made w (.bool false) I.N 4
  generalize w.alloc (.cells (madeCells #[.bool false] I.N) 4) = w1 at *
  refine wp_seq ?_
  refine wp_region_lit ?_
  refine kl hK 333 rfl (by decide) rfl (fun ρ hρ => r_mv _ rfl (hρ _ _ rfl)) ?_
  clear hK a; intro a hK
  refine kl hK 334 rfl (by decide) rfl (fun ρ hρ => r_make1 42 4 (.bool false) 1 rfl (by decide) Yba.underlying42 info4' _ _ rfl (by omega) (hρ _ _ rfl) (hρ _ _ rfl)) ?_
  clear hK a; intro a hK
  refine kl hK 55 rfl (by decide) rfl (fun ρ hρ => r_as _ rfl (hρ _ _ rfl)) ?_
  clear hK a; intro a hK
  refine wpList_nil ?_
  show Code.wp Yba.prog _ _ _ _
  have hb2 := bel_alloc (Below.refl w1.heap.size w1) (.cells (madeCells #[.bool false] I.N) 4)
  have hq := World.rowIs_made w1 (.bool false) I.N 4
  have hf2 := hf.of_block (hb2.block _ hf.lt)
  have hne : w.heap.size ≠ w1.heap.size := fun e => by have := hf.lt; omega
  generalize w1.alloc (.cells (madeCells #[.bool false] I.N) 4) = w2 at *
  refine wp_seq ?_
  refine wp_region_lit ?_
  refine kl hK 56 rfl (by decide) rfl (fun ρ hρ => r_as _ rfl (hρ _ _ rfl)) ?_
  clear hK a; intro a hK
  refine wpList_nil ?_
  show Code.wp Yba.prog _ _ _ _
  refine wp_seq ?_
  refine wp_seq ?_
  refine wp_region_lit ?_
  refine kl hK 57 rfl (by decide) rfl (fun ρ hρ => r_as _ rfl (hρ _ _ rfl)) ?_
  clear hK a; intro a hK
  refine wpList_nil ?_
  show Code.wp Yba.prog _ _ _ _
  refine lp12 I w0 F arB st B e0 l0 hB0 hc0 r0 mB r0B w.heap.size w1.heap.size hF hll w hM (Nat.le_refl _) hb1.size hne _ _ ?_ a w2 (hK.sub ⟨rfl, rfl, rfl, rfl, rfl, rfl, rfl, rfl, rfl, rfl, rfl, rfl, rfl, rfl, rfl, rfl, rfl, rfl, rfl, rfl, rfl, rfl, rfl, trivial⟩) ⟨bel_trans hb1 hb2, rowf hf2 fun q _ => by rw [decide_eq_false (Nat.not_lt_zero q)]; rfl, rowf hq fun q _ => rfl⟩
  clear hK a
  intro a w3 hK hL
  exact hnext a w3 _ _ (hK.sub ⟨rfl, rfl, rfl, rfl, rfl, rfl, rfl, rfl, rfl, rfl, rfl, rfl, rfl, rfl, rfl, rfl, rfl, rfl, rfl, rfl, rfl, rfl, trivial⟩) ⟨hM.below hL.bel, rowf hL.f fun q hq => by rw [decide_eq_true hq, Bool.true_and], hL.q⟩

/-! ### the rises expected, of those that were given -/
theorem list_set_same {α : Type} {l : List α} {i : Nat} {v : α} (h : l[i]? = some v) : l.set i v = l := by
  obtain ⟨hi, rfl⟩ := List.getElem?_eq_some_iff.1 h
  exact List.set_getElem_self hi
section
variable (D : PD) (R : List Rs)
def EK : Nat → List Rs
  | 0 => R
  | k + 1 => match (EK k)[k]? with | some r => if fired D R r.p = true then (EK k).set k (up r (D.hcnt r.p)) else EK k | none => EK k
theorem EK_len : ∀ k, (EK D R k).length = R.length
  | 0 => rfl
  | k + 1 => by
    have := EK_len k
    unfold EK
    split
    · split
      · rw [List.length_set, this]
      · exact this
    · exact this
theorem EK_ix (q : Nat) : ∀ k, ix (EK D R k) q = ix R q
  | 0 => rfl
  | k + 1 => by
    have := EK_ix q k
    unfold EK
    split
    · rename_i r hr
      split
      · rw [ix_set _ k r _ hr (up_p _ _), this]
      · exact this
    · exact this
theorem EK_ps : ∀ k, (EK D R k).map Rs.p = R.map Rs.p
  | 0 => rfl
  | k + 1 => by
    have := EK_ps k
    unfold EK
    split
    · rename_i r hr
      split
      · rw [List.map_set, up_p, this]
        refine list_set_same ?_
        rw [← this, List.getElem?_map, hr]; rfl
      · exact this
    · exact this
theorem EK_wf {N : Nat} (h : WF N R) (k : Nat) : WF N (EK D R k) := by
  have hp := EK_ps D R k
  refine ⟨by rw [hp]; exact h.nd, fun r hr => ?_⟩
  have : r.p ∈ R.map Rs.p := by rw [← hp]; exact List.mem_map_of_mem hr
  obtain ⟨r', h1, h2⟩ := List.mem_map.1 this
  rw [← h2]; exact h.lt r' h1
end
theorem riseL_set1 {R : List Rs} {i : Nat} {r : Rs} (h : R[i]? = some r) (b : Bool) : riseL (R.set i ⟨r.p, r.old, r.cnt, b⟩) = (riseL R).set (i * 4 + 3) (.bool b) := by
  rw [riseL_set R i r r.cnt b h, list_set_same (riseL_get R i r h).2.2.1]
structure EX (wA : World) (xV : Value) (E : List Rs) (w : World) : Prop where
  bel : Below wA.heap.size wA w
  own : w.ownsRow wA.heap.size 46 4 xV E.length (riseL E)


set_option maxRecDepth 100000 in
set_option maxHeartbeats 1000000 in
theorem lp14 (I : IN) (w0 : World) (F : Nat → Prop) (arB : Nat) (st : ST) (B : Nat) (e0 l0 : Value) (hB0 hc0 : Nat) (r0 : Value) (mB r0B fB qB : Nat) (wA : World) (hQ : FQ I w0 F arB st B e0 l0 hB0 hc0 r0 mB r0B fB qB wA) (xV : Value) (Q : Exit → Act → World → Prop) (K : Act → World → Prop) (hKK : ∀ a w, Kn 706 ((62, xV) :: (56, .bool (anyk I.D I.R0 I.N)) :: (55, .slice (some ⟨qB, 0, none⟩) I.N I.N) :: (54, .slice (some ⟨fB, 0, none⟩) I.N I.N) :: (51, .slice (some ⟨r0B, 0, none⟩) I.N I.N) :: (50, ptr mB) :: (46, .int .i32 (I.D.asp : Nat)) :: (45, ptr arB) :: (44, r0) :: (43, .slice (some ⟨hB0, 0, none⟩) I.N hc0) :: (42, l0) :: (41, e0) :: (21, .int .i32 I.N) :: LA I) a → EX wA xV (EK I.D I.R0 I.R0.length) w → K a w) (a : Act) (w : World) (hK : Kn 706 ((407, .int .i64 (0 : Nat)) :: (406, .int .i64 I.R0.length) :: (405, xV) :: (62, xV) :: (56, .bool (anyk I.D I.R0 I.N)) :: (55, .slice (some ⟨qB, 0, none⟩) I.N I.N) :: (54, .slice (some ⟨fB, 0, none⟩) I.N I.N) :: (51, .slice (some ⟨r0B, 0, none⟩) I.N I.N) :: (50, ptr mB) :: (46, .int .i32 (I.D.asp : Nat)) :: (45, ptr arB) :: (44, r0) :: (43, .slice (some ⟨hB0, 0, none⟩) I.N hc0) :: (42, l0) :: (41, e0) :: (21, .int .i32 I.N) :: LA I) a) (hE : EX wA xV I.R0 w) :
    Code.wp Yba.prog (nav [1, 1, 1, 1, 1, 1, 1, 1, 1, 1, 1, 1, 1, 1, 1, 1, 1, 1, 1, 1, 1, 1, 1, 1, 1, 1, 1, 1, 1, 1, 1, 1, 0, 1] (Yba.f3.body.getD .skip)) (Exit.then K Q) a w := by
  have hN := I.N_le
  have hwf : WF I.N I.R0 := rsK_wf I I.lr
  have hlen := hwf.len
  refine loop_n K (fun n a w => ∃ k, k ≤ I.R0.length ∧ n = I.R0.length - k ∧ Kn 706 ((407, .int .i64 (k : Nat)) :: (406, .int .i64 I.R0.length) :: (405, xV) :: (62, xV) :: (56, .bool (anyk I.D I.R0 I.N)) :: (55, .slice (some ⟨qB, 0, none⟩) I.N I.N) :: (54, .slice (some ⟨fB, 0, none⟩) I.N I.N) :: (51, .slice (some ⟨r0B, 0, none⟩) I.N I.N) :: (50, ptr mB) :: (46, .int .i32 (I.D.asp : Nat)) :: (45, ptr arB) :: (44, r0) :: (43, .slice (some ⟨hB0, 0, none⟩) I.N hc0) :: (42, l0) :: (41, e0) :: (21, .int .i32 I.N) :: LA I) a ∧ EX wA xV (EK I.D I.R0 k) w) ⟨0, Nat.zero_le _, rfl, hK, hE⟩ ?_
  clear hK hE a w
  rintro n a w T ⟨k, hk, hn, hK, hE⟩ hR
  refine wp_seq ?_
  refine wp_region_lit ?_
  refine kl hK 408 rfl (by decide) rfl (fun ρ hρ => r_lss3 _ _ rfl (hρ _ _ rfl) (hρ _ _ rfl)) ?_
  clear hK a; intro a hK
  refine wpList_nil ?_
  show Code.wp Yba.prog _ _ _ _
  refine wp_seq ?_
  by_cases hkl : k < I.R0.length
  · have tl : ∀ a w, Kn 706 ((407, .int .i64 (k : Nat)) :: (406, .int .i64 I.R0.length) :: (405, xV) :: (62, xV) :: (56, .bool (anyk I.D I.R0 I.N)) :: (55, .slice (some ⟨qB, 0, none⟩) I.N I.N) :: (54, .slice (some ⟨fB, 0, none⟩) I.N I.N) :: (51, .slice (some ⟨r0B, 0, none⟩) I.N I.N) :: (50, ptr mB) :: (46, .int .i32 (I.D.asp : Nat)) :: (45, ptr arB) :: (44, r0) :: (43, .slice (some ⟨hB0, 0, none⟩) I.N hc0) :: (42, l0) :: (41, e0) :: (21, .int .i32 I.N) :: LA I) a → EX wA xV (EK I.D I.R0 (k + 1)) w → Code.wp Yba.prog (nav [1, 1, 1, 1, 1, 1, 1, 1, 1, 1, 1, 1, 1, 1, 1, 1, 1, 1, 1, 1, 1, 1, 1, 1, 1, 1, 1, 1, 1, 1, 1, 1, 0, 1, 0, 0, 1, 1, 1] (Yba.f3.body.getD .skip)) (Exit.then T (Exit.inBlock 14 (Exit.then K Q))) a w := by
      clear hK hE a w
      intro a w hK hE
      conv => arg 2; whnf
      refine wp_region_lit ?_
      refine kl hK 452 rfl (by decide) rfl (fun ρ hρ => r_inc3 _ rfl (by omega) (hρ _ _ rfl) (hρ _ _ rfl)) ?_
      clear hK a; intro a hK
      refine kl hK 407 rfl (by decide) rfl (fun ρ hρ => r_mv _ rfl (hρ _ _ rfl)) ?_
      clear hK a; intro a hK
      refine wpList_nil ?_
      exact hR (I.R0.length - (k + 1)) _ _ (by omega) ⟨k + 1, hkl, rfl, hK.sub ⟨rfl, rfl, rfl, rfl, rfl, rfl, rfl, rfl, rfl, rfl, rfl, rfl, rfl, rfl, rfl, rfl, rfl, rfl, rfl, rfl, rfl, rfl, rfl, rfl, rfl, rfl, trivial⟩, hE⟩
    have hEl := EK_len I.D I.R0 k
    obtain ⟨r, hr⟩ : ∃ r, (EK I.D I.R0 k)[k]? = some r := ⟨_, List.getElem?_eq_getElem (by omega)⟩
    obtain ⟨c0, c1, c2, c3⟩ := riseL_get _ k r hr
    have hrN : r.p < I.N := (EK_wf I.D I.R0 hwf k).lt r (List.mem_of_getElem? hr)
    have hQ1 := hQ.below hE.bel
    obtain ⟨k0, k1, k2, k3⟩ := hQ1.fm.hand r.p hrN
    obtain ⟨g, cap, hv⟩ : ∃ g cap, xV = .slice (some ⟨g, 0, none⟩) I.R0.length cap := by
      rcases own_slice hE.own with ⟨_, h2⟩ | ⟨g, cap, h2, -, -⟩
      · omega
      · exact ⟨g, cap, by rw [h2, hEl]⟩
    have hown := hE.own
    rw [hv, hEl] at hown
    have hgl := (hown.lt g rfl).1
    refine wp_cond_true (by rw [hK.rho (.tmp 408) _ rfl]; exact congrArg Value.bool (decide_eq_true (by omega))) ?_
    refine wp_skip ?_
    show Code.wp Yba.prog _ _ _ _
    replace hK := hK.sub (M := (407, .int .i64 (k : Nat)) :: (406, .int .i64 I.R0.length) :: (405, .slice (some ⟨g, 0, none⟩) I.R0.length cap) :: (62, .slice (some ⟨g, 0, none⟩) I.R0.length cap) :: (56, .bool (anyk I.D I.R0 I.N)) :: (55, .slice (some ⟨qB, 0, none⟩) I.N I.N) :: (54, .slice (some ⟨fB, 0, none⟩) I.N I.N) :: (51, .slice (some ⟨r0B, 0, none⟩) I.N I.N) :: (50, ptr mB) :: (46, .int .i32 (I.D.asp : Nat)) :: (45, ptr arB) :: (44, r0) :: (43, .slice (some ⟨hB0, 0, none⟩) I.N hc0) :: (42, l0) :: (41, e0) :: (21, .int .i32 I.N) :: LA I) ⟨rfl, rfl, by rw [hv]; rfl, by rw [hv]; rfl, rfl, rfl, rfl, rfl, rfl, rfl, rfl, rfl, rfl, rfl, rfl, rfl, rfl, rfl, rfl, rfl, rfl, rfl, rfl, rfl, rfl, rfl, trivial⟩
    refine wp_seq ?_
    refine wp_block ?_
    refine wp_seq ?_
    refine wp_region_lit ?_
    refine kl hK 409 rfl (by decide) rfl (fun ρ hρ => r_mv _ rfl (hρ _ _ rfl)) ?_
    clear hK a; intro a hK
    refine kl hK 63 rfl (by decide) rfl (fun ρ hρ => r_as _ rfl (hρ _ _ rfl)) ?_
    clear hK a; intro a hK
    refine wpList_nil ?_
    show Code.wp Yba.prog _ _ _ _
    replace hK := hK.sub (M := (63, .int .i64 (k : Nat)) :: (407, .int .i64 (k : Nat)) :: (406, .int .i64 I.R0.length) :: (405, .slice (some ⟨g, 0, none⟩) I.R0.length cap) :: (62, .slice (some ⟨g, 0, none⟩) I.R0.length cap) :: (56, .bool (anyk I.D I.R0 I.N)) :: (55, .slice (some ⟨qB, 0, none⟩) I.N I.N) :: (54, .slice (some ⟨fB, 0, none⟩) I.N I.N) :: (51, .slice (some ⟨r0B, 0, none⟩) I.N I.N) :: (50, ptr mB) :: (46, .int .i32 (I.D.asp : Nat)) :: (45, ptr arB) :: (44, r0) :: (43, .slice (some ⟨hB0, 0, none⟩) I.N hc0) :: (42, l0) :: (41, e0) :: (21, .int .i32 I.N) :: LA I) ⟨rfl, rfl, rfl, rfl, rfl, rfl, rfl, rfl, rfl, rfl, rfl, rfl, rfl, rfl, rfl, rfl, rfl, rfl, rfl, rfl, rfl, rfl, rfl, rfl, rfl, rfl, rfl, trivial⟩
    refine wp_seq ?_
    refine wp_region_lit ?_
    refine kl hK 410 rfl (by decide) rfl (fun ρ hρ => r_mv _ rfl (hρ _ _ rfl)) ?_
    clear hK a; intro a hK
    refine kl hK 411 rfl (by decide) rfl (fun ρ hρ => r_mv _ rfl (hρ _ _ rfl)) ?_
    clear hK a; intro a hK
    refine kl hK 412 rfl (by decide) rfl (fun ρ hρ => r_ix41z _ _ rfl hkl (hρ _ _ rfl) (hρ _ _ rfl)) ?_
    clear hK a; intro a hK
    refine kl hK 413 rfl (by decide) rfl (fun ρ hρ => r_fa46_0 _ rfl (hρ _ _ rfl)) ?_
    clear hK a; intro a hK
    refine kl hK 414 rfl (by decide) rfl (fun ρ hρ => r_ld21 _ rfl (hρ _ _ rfl) (own_cell hown c0).1) ?_
    clear hK a; intro a hK
    refine kl hK 64 rfl (by decide) rfl (fun ρ hρ => r_as _ rfl (hρ _ _ rfl)) ?_
    clear hK a; intro a hK
    refine wpList_nil ?_
    show Code.wp Yba.prog _ _ _ _
    replace hK := hK.sub (M := (64, .int .i32 (r.p : Nat)) :: (63, .int .i64 (k : Nat)) :: (407, .int .i64 (k : Nat)) :: (406, .int .i64 I.R0.length) :: (405, .slice (some ⟨g, 0, none⟩) I.R0.length cap) :: (62, .slice (some ⟨g, 0, none⟩) I.R0.length cap) :: (56, .bool (anyk I.D I.R0 I.N)) :: (55, .slice (some ⟨qB, 0, none⟩) I.N I.N) :: (54, .slice (some ⟨fB, 0, none⟩) I.N I.N) :: (51, .slice (some ⟨r0B, 0, none⟩) I.N I.N) :: (50, ptr mB) :: (46, .int .i32 (I.D.asp : Nat)) :: (45, ptr arB) :: (44, r0) :: (43, .slice (some ⟨hB0, 0, none⟩) I.N hc0) :: (42, l0) :: (41, e0) :: (21, .int .i32 I.N) :: LA I) ⟨rfl, rfl, rfl, rfl, rfl, rfl, rfl, rfl, rfl, rfl, rfl, rfl, rfl, rfl, rfl, rfl, rfl, rfl, rfl, rfl, rfl, rfl, rfl, rfl, rfl, rfl, rfl, rfl, trivial⟩
    refine wp_seq ?_
    refine wp_seq ?_
    refine wp_region_lit ?_
    refine kl hK 415 rfl (by decide) rfl (fun ρ hρ => r_mv _ rfl (hρ _ _ rfl)) ?_
    clear hK a; intro a hK
    refine kl hK 416 rfl (by decide) rfl (fun ρ hρ => r_mv _ rfl (hρ _ _ rfl)) ?_
    clear hK a; intro a hK
    refine kl hK 417 rfl (by decide) rfl (fun ρ hρ => r_ix42z _ _ rfl hrN (hρ _ _ rfl) (hρ _ _ rfl)) ?_
    clear hK a; intro a hK
    refine kl hK 418 rfl (by decide) rfl (fun ρ hρ => r_ld4 _ rfl (hρ _ _ rfl) (hQ1.f.cell hrN)) ?_
    clear hK a; intro a hK
    refine kl hK 419 rfl (by decide) rfl (fun ρ hρ => r_not _ rfl (hρ _ _ rfl)) ?_
    clear hK a; intro a hK
    refine wpList_nil ?_
    show Code.wp Yba.prog _ _ _ _
    cases hf : fired I.D I.R0 r.p
    · have hEk : EK I.D I.R0 (k + 1) = EK I.D I.R0 k := by
        show (match (EK I.D I.R0 k)[k]? with | some r => if fired I.D I.R0 r.p = true then (EK I.D I.R0 k).set k (up r (I.D.hcnt r.p)) else EK I.D I.R0 k | none => EK I.D I.R0 k) = _
        rw [hr]; simp [hf]
      refine wp_cond_true (by rw [hK.rho (.tmp 419) _ rfl]; exact congrArg Value.bool (by rw [hf]; rfl)) ?_
      refine wp_exit ?_
      show Code.wp Yba.prog _ _ _ _
      exact tl a w (hK.sub ⟨rfl, rfl, by rw [hv]; rfl, by rw [hv]; rfl, rfl, rfl, rfl, rfl, rfl, rfl, rfl, rfl, rfl, rfl, rfl, rfl, rfl, rfl, rfl, rfl, rfl, rfl, rfl, rfl, rfl, rfl, trivial⟩) (by rw [hEk]; exact hE)
    · have hEk : EK I.D I.R0 (k + 1) = (EK I.D I.R0 k).set k (up r (I.D.hcnt r.p)) := by
        show (match (EK I.D I.R0 k)[k]? with | some r => if fired I.D I.R0 r.p = true then (EK I.D I.R0 k).set k (up r (I.D.hcnt r.p)) else EK I.D I.R0 k | none => EK I.D I.R0 k) = _
        rw [hr]; simp [hf]
      refine wp_cond_false (by rw [hK.rho (.tmp 419) _ rfl]; exact congrArg Value.bool (by rw [hf]; rfl)) ?_
      refine wp_skip ?_
      show Code.wp Yba.prog _ _ _ _
      replace hK := hK.sub (M := (64, .int .i32 (r.p : Nat)) :: (63, .int .i64 (k : Nat)) :: (407, .int .i64 (k : Nat)) :: (406, .int .i64 I.R0.length) :: (405, .slice (some ⟨g, 0, none⟩) I.R0.length cap) :: (62, .slice (some ⟨g, 0, none⟩) I.R0.length cap) :: (56, .bool (anyk I.D I.R0 I.N)) :: (55, .slice (some ⟨qB, 0, none⟩) I.N I.N) :: (54, .slice (some ⟨fB, 0, none⟩) I.N I.N) :: (51, .slice (some ⟨r0B, 0, none⟩) I.N I.N) :: (50, ptr mB) :: (46, .int .i32 (I.D.asp : Nat)) :: (45, ptr arB) :: (44, r0) :: (43, .slice (some ⟨hB0, 0, none⟩) I.N hc0) :: (42, l0) :: (41, e0) :: (21, .int .i32 I.N) :: LA I) ⟨rfl, rfl, rfl, rfl, rfl, rfl, rfl, rfl, rfl, rfl, rfl, rfl, rfl, rfl, rfl, rfl, rfl, rfl, rfl, rfl, rfl, rfl, rfl, rfl, rfl, rfl, rfl, rfl, trivial⟩
      refine wp_seq ?_
      refine wp_region_lit ?_
      refine kl hK 420 rfl (by decide) rfl (fun ρ hρ => r_mv _ rfl (hρ _ _ rfl)) ?_
      clear hK a; intro a hK
      refine kl hK 421 rfl (by decide) rfl (fun ρ hρ => r_mv _ rfl (hρ _ _ rfl)) ?_
      clear hK a; intro a hK
      refine kl hK 422 rfl (by decide) rfl (fun ρ hρ => r_ix25z _ _ rfl hrN (hρ _ _ rfl) (hρ _ _ rfl)) ?_
      clear hK a; intro a hK
      refine kl hK 423 rfl (by decide) rfl (fun ρ hρ => r_fa27_2 _ rfl (hρ _ _ rfl)) ?_
      clear hK a; intro a hK
      refine kl hK 424 rfl (by decide) rfl (fun ρ hρ => r_ld21 _ rfl (hρ _ _ rfl) k2) ?_
      clear hK a; intro a hK
      refine kl hK 65 rfl (by decide) rfl (fun ρ hρ => r_as _ rfl (hρ _ _ rfl)) ?_
      clear hK a; intro a hK
      refine wpList_nil ?_
      show Code.wp Yba.prog _ _ _ _
      replace hK := hK.sub (M := (65, .int .i32 (I.D.hcnt r.p)) :: (64, .int .i32 (r.p : Nat)) :: (63, .int .i64 (k : Nat)) :: (407, .int .i64 (k : Nat)) :: (406, .int .i64 I.R0.length) :: (405, .slice (some ⟨g, 0, none⟩) I.R0.length cap) :: (62, .slice (some ⟨g, 0, none⟩) I.R0.length cap) :: (56, .bool (anyk I.D I.R0 I.N)) :: (55, .slice (some ⟨qB, 0, none⟩) I.N I.N) :: (54, .slice (some ⟨fB, 0, none⟩) I.N I.N) :: (51, .slice (some ⟨r0B, 0, none⟩) I.N I.N) :: (50, ptr mB) :: (46, .int .i32 (I.D.asp : Nat)) :: (45, ptr arB) :: (44, r0) :: (43, .slice (some ⟨hB0, 0, none⟩) I.N hc0) :: (42, l0) :: (41, e0) :: (21, .int .i32 I.N) :: LA I) ⟨rfl, rfl, rfl, rfl, rfl, rfl, rfl, rfl, rfl, rfl, rfl, rfl, rfl, rfl, rfl, rfl, rfl, rfl, rfl, rfl, rfl, rfl, rfl, rfl, rfl, rfl, rfl, rfl, rfl, trivial⟩
      refine wp_seq ?_
      refine wp_region_lit ?_
      refine kl hK 425 rfl (by decide) rfl (fun ρ hρ => r_mv _ rfl (hρ _ _ rfl)) ?_
      clear hK a; intro a hK
      refine kl hK 426 rfl (by decide) rfl (fun ρ hρ => r_mv _ rfl (hρ _ _ rfl)) ?_
      clear hK a; intro a hK
      refine kl hK 427 rfl (by decide) rfl (fun ρ hρ => r_mv _ rfl (hρ _ _ rfl)) ?_
      clear hK a; intro a hK
      refine kl hK 428 rfl (by decide) rfl (fun ρ hρ => r_ix41z _ _ rfl hkl (hρ _ _ rfl) (hρ _ _ rfl)) ?_
      clear hK a; intro a hK
      refine kl hK 429 rfl (by decide) rfl (fun ρ hρ => r_fa46_2 _ rfl (hρ _ _ rfl)) ?_
      clear hK a; intro a hK
      refine kl hK 430 rfl (by decide) rfl (fun ρ hρ => r_ld21 _ rfl (hρ _ _ rfl) (own_cell hown c2).1) ?_
      clear hK a; intro a hK
      refine kl hK 431 rfl (by decide) rfl (fun ρ hρ => r_gtr21 _ _ rfl (hρ _ _ rfl) (hρ _ _ rfl)) ?_
      clear hK a; intro a hK
      refine wpList_nil ?_
      show Code.wp Yba.prog _ _ _ _
      by_cases hlt : r.cnt < I.D.hcnt r.p
      · skip
        refine wp_cond_true (by rw [hK.rho (.tmp 431) _ rfl]; exact congrArg Value.bool (decide_eq_true hlt)) ?_
        replace hK := hK.sub (M := (65, .int .i32 (I.D.hcnt r.p)) :: (64, .int .i32 (r.p : Nat)) :: (63, .int .i64 (k : Nat)) :: (407, .int .i64 (k : Nat)) :: (406, .int .i64 I.R0.length) :: (405, .slice (some ⟨g, 0, none⟩) I.R0.length cap) :: (62, .slice (some ⟨g, 0, none⟩) I.R0.length cap) :: (56, .bool (anyk I.D I.R0 I.N)) :: (55, .slice (some ⟨qB, 0, none⟩) I.N I.N) :: (54, .slice (some ⟨fB, 0, none⟩) I.N I.N) :: (51, .slice (some ⟨r0B, 0, none⟩) I.N I.N) :: (50, ptr mB) :: (46, .int .i32 (I.D.asp : Nat)) :: (45, ptr arB) :: (44, r0) :: (43, .slice (some ⟨hB0, 0, none⟩) I.N hc0) :: (42, l0) :: (41, e0) :: (21, .int .i32 I.N) :: LA I) ⟨rfl, rfl, rfl, rfl, rfl, rfl, rfl, rfl, rfl, rfl, rfl, rfl, rfl, rfl, rfl, rfl, rfl, rfl, rfl, rfl, rfl, rfl, rfl, rfl, rfl, rfl, rfl, rfl, rfl, trivial⟩
        refine wp_seq ?_
        refine wp_region_lit ?_
        refine kl hK 432 rfl (by decide) rfl (fun ρ hρ => r_mv _ rfl (hρ _ _ rfl)) ?_
        clear hK a; intro a hK
        refine kl hK 433 rfl (by decide) rfl (fun ρ hρ => r_mv _ rfl (hρ _ _ rfl)) ?_
        clear hK a; intro a hK
        refine kl hK 434 rfl (by decide) rfl (fun ρ hρ => r_mv _ rfl (hρ _ _ rfl)) ?_
        clear hK a; intro a hK
        refine kl hK 435 rfl (by decide) rfl (fun ρ hρ => r_ix41z _ _ rfl hkl (hρ _ _ rfl) (hρ _ _ rfl)) ?_
        clear hK a; intro a hK
        refine kl hK 436 rfl (by decide) rfl (fun ρ hρ => r_fa46_2 _ rfl (hρ _ _ rfl)) ?_
        clear hK a; intro a hK
        refine kst hK rfl rfl (fun ρ hρ => r_sto21 _ _ rfl (hρ _ _ rfl) (hρ _ _ rfl) (own_cell hown c2).1 (own_cell hown c2).2) ?_
        refine wpList_nil ?_
        show Code.wp Yba.prog _ _ _ _
        have hown1 := own_set hown (k * 4 + 2) (.int .i32 (I.D.hcnt r.p))
        have c3' : ((riseL (EK I.D I.R0 k)).set (k * 4 + 2) (.int .i32 (I.D.hcnt r.p)))[k * 4 + 3]? = some (.bool r.by_) := by rw [List.getElem?_set_ne (by omega)]; exact c3
        have hb1 := hE.bel.setCell (p := ⟨g, k * 4 + 2, none⟩) hgl (.int .i32 (I.D.hcnt r.p))
        generalize (w.setCell ⟨g, k * 4 + 2, none⟩ (.int .i32 (I.D.hcnt r.p))) = w1 at *
        refine wp_region_lit ?_
        refine kl hK 437 rfl (by decide) rfl (fun ρ hρ => r_mv _ rfl (hρ _ _ rfl)) ?_
        clear hK a; intro a hK
        refine kl hK 438 rfl (by decide) rfl (fun ρ hρ => r_mv _ rfl (hρ _ _ rfl)) ?_
        clear hK a; intro a hK
        refine kl hK 439 rfl (by decide) rfl (fun ρ hρ => r_ix41z _ _ rfl hkl (hρ _ _ rfl) (hρ _ _ rfl)) ?_
        clear hK a; intro a hK
        refine kl hK 440 rfl (by decide) rfl (fun ρ hρ => r_fa46_3 _ rfl (hρ _ _ rfl)) ?_
        clear hK a; intro a hK
        refine kst hK rfl rfl (fun ρ hρ => r_sto4 _ _ rfl (hρ _ _ rfl) (hρ _ _ rfl) (own_cell hown1 c3').1 (own_cell hown1 c3').2) ?_
        refine wpList_nil ?_
        show Code.wp Yba.prog _ _ _ _
        have hu : up r (I.D.hcnt r.p) = ⟨r.p, r.old, I.D.hcnt r.p, true⟩ := by unfold up; rw [if_pos hlt]
        refine tl a _ (hK.sub ⟨rfl, rfl, by rw [hv]; rfl, by rw [hv]; rfl, rfl, rfl, rfl, rfl, rfl, rfl, rfl, rfl, rfl, rfl, rfl, rfl, rfl, rfl, rfl, rfl, rfl, rfl, rfl, rfl, rfl, rfl, trivial⟩) ⟨hb1.setCell (p := ⟨g, k * 4 + 3, none⟩) hgl _, ?_⟩
        rw [EK_len, hv, hEk, hu, riseL_set _ k r _ _ hr]
        exact own_set hown1 (k * 4 + 3) (.bool true)
      · skip
        refine wp_cond_false (by rw [hK.rho (.tmp 431) _ rfl]; exact congrArg Value.bool (decide_eq_false hlt)) ?_
        replace hK := hK.sub (M := (65, .int .i32 (I.D.hcnt r.p)) :: (64, .int .i32 (r.p : Nat)) :: (63, .int .i64 (k : Nat)) :: (407, .int .i64 (k : Nat)) :: (406, .int .i64 I.R0.length) :: (405, .slice (some ⟨g, 0, none⟩) I.R0.length cap) :: (62, .slice (some ⟨g, 0, none⟩) I.R0.length cap) :: (56, .bool (anyk I.D I.R0 I.N)) :: (55, .slice (some ⟨qB, 0, none⟩) I.N I.N) :: (54, .slice (some ⟨fB, 0, none⟩) I.N I.N) :: (51, .slice (some ⟨r0B, 0, none⟩) I.N I.N) :: (50, ptr mB) :: (46, .int .i32 (I.D.asp : Nat)) :: (45, ptr arB) :: (44, r0) :: (43, .slice (some ⟨hB0, 0, none⟩) I.N hc0) :: (42, l0) :: (41, e0) :: (21, .int .i32 I.N) :: LA I) ⟨rfl, rfl, rfl, rfl, rfl, rfl, rfl, rfl, rfl, rfl, rfl, rfl, rfl, rfl, rfl, rfl, rfl, rfl, rfl, rfl, rfl, rfl, rfl, rfl, rfl, rfl, rfl, rfl, rfl, trivial⟩
        refine wp_seq ?_
        refine wp_region_lit ?_
        refine kl hK 441 rfl (by decide) rfl (fun ρ hρ => r_mv _ rfl (hρ _ _ rfl)) ?_
        clear hK a; intro a hK
        refine kl hK 442 rfl (by decide) rfl (fun ρ hρ => r_mv _ rfl (hρ _ _ rfl)) ?_
        clear hK a; intro a hK
        refine kl hK 443 rfl (by decide) rfl (fun ρ hρ => r_mv _ rfl (hρ _ _ rfl)) ?_
        clear hK a; intro a hK
        refine kl hK 444 rfl (by decide) rfl (fun ρ hρ => r_ix41z _ _ rfl hkl (hρ _ _ rfl) (hρ _ _ rfl)) ?_
        clear hK a; intro a hK
        refine kl hK 445 rfl (by decide) rfl (fun ρ hρ => r_fa46_2 _ rfl (hρ _ _ rfl)) ?_
        clear hK a; intro a hK
        refine kl hK 446 rfl (by decide) rfl (fun ρ hρ => r_ld21 _ rfl (hρ _ _ rfl) (own_cell hown c2).1) ?_
        clear hK a; intro a hK
        refine kl hK 447 rfl (by decide) rfl (fun ρ hρ => r_eql21 _ _ rfl (hρ _ _ rfl) (hρ _ _ rfl)) ?_
        clear hK a; intro a hK
        refine wpList_nil ?_
        show Code.wp Yba.prog _ _ _ _
        by_cases heq : I.D.hcnt r.p = r.cnt
        · skip
          refine wp_cond_true (by rw [hK.rho (.tmp 447) _ rfl]; exact congrArg Value.bool (decide_eq_true heq)) ?_
          replace hK := hK.sub (M := (65, .int .i32 (I.D.hcnt r.p)) :: (64, .int .i32 (r.p : Nat)) :: (63, .int .i64 (k : Nat)) :: (407, .int .i64 (k : Nat)) :: (406, .int .i64 I.R0.length) :: (405, .slice (some ⟨g, 0, none⟩) I.R0.length cap) :: (62, .slice (some ⟨g, 0, none⟩) I.R0.length cap) :: (56, .bool (anyk I.D I.R0 I.N)) :: (55, .slice (some ⟨qB, 0, none⟩) I.N I.N) :: (54, .slice (some ⟨fB, 0, none⟩) I.N I.N) :: (51, .slice (some ⟨r0B, 0, none⟩) I.N I.N) :: (50, ptr mB) :: (46, .int .i32 (I.D.asp : Nat)) :: (45, ptr arB) :: (44, r0) :: (43, .slice (some ⟨hB0, 0, none⟩) I.N hc0) :: (42, l0) :: (41, e0) :: (21, .int .i32 I.N) :: LA I) ⟨rfl, rfl, rfl, rfl, rfl, rfl, rfl, rfl, rfl, rfl, rfl, rfl, rfl, rfl, rfl, rfl, rfl, rfl, rfl, rfl, rfl, rfl, rfl, rfl, rfl, rfl, rfl, rfl, rfl, trivial⟩
          refine wp_region_lit ?_
          refine kl hK 448 rfl (by decide) rfl (fun ρ hρ => r_mv _ rfl (hρ _ _ rfl)) ?_
          clear hK a; intro a hK
          refine kl hK 449 rfl (by decide) rfl (fun ρ hρ => r_mv _ rfl (hρ _ _ rfl)) ?_
          clear hK a; intro a hK
          refine kl hK 450 rfl (by decide) rfl (fun ρ hρ => r_ix41z _ _ rfl hkl (hρ _ _ rfl) (hρ _ _ rfl)) ?_
          clear hK a; intro a hK
          refine kl hK 451 rfl (by decide) rfl (fun ρ hρ => r_fa46_3 _ rfl (hρ _ _ rfl)) ?_
          clear hK a; intro a hK
          refine kst hK rfl rfl (fun ρ hρ => r_sto4 _ _ rfl (hρ _ _ rfl) (hρ _ _ rfl) (own_cell hown c3).1 (own_cell hown c3).2) ?_
          refine wpList_nil ?_
          show Code.wp Yba.prog _ _ _ _
          have hu : up r (I.D.hcnt r.p) = ⟨r.p, r.old, r.cnt, true⟩ := by unfold up; rw [if_neg hlt, if_pos heq]
          refine tl a _ (hK.sub ⟨rfl, rfl, by rw [hv]; rfl, by rw [hv]; rfl, rfl, rfl, rfl, rfl, rfl, rfl, rfl, rfl, rfl, rfl, rfl, rfl, rfl, rfl, rfl, rfl, rfl, rfl, rfl, rfl, rfl, rfl, trivial⟩) ⟨hE.bel.setCell (p := ⟨g, k * 4 + 3, none⟩) hgl _, ?_⟩
          rw [EK_len, hv, hEk, hu, riseL_set1 hr]
          exact own_set hown (k * 4 + 3) (.bool true)
        · skip
          refine wp_cond_false (by rw [hK.rho (.tmp 447) _ rfl]; exact congrArg Value.bool (decide_eq_false heq)) ?_
          refine wp_skip ?_
          show Code.wp Yba.prog _ _ _ _
          have hu : up r (I.D.hcnt r.p) = r := by unfold up; rw [if_neg hlt, if_neg heq]
          refine tl a _ (hK.sub ⟨rfl, rfl, by rw [hv]; rfl, by rw [hv]; rfl, rfl, rfl, rfl, rfl, rfl, rfl, rfl, rfl, rfl, rfl, rfl, rfl, rfl, rfl, rfl, rfl, rfl, rfl, rfl, rfl, rfl, rfl, trivial⟩) ⟨hE.bel, ?_⟩
          rw [EK_len, hv, hEk, hu, list_set_same hr]
          exact hown
  · have hke : k = I.R0.length := by omega
    refine wp_cond_false (by rw [hK.rho (.tmp 408) _ rfl]; exact congrArg Value.bool (decide_eq_false (by omega))) ?_
    refine wp_exit ?_
    subst hke
    exact hKK _ _ (hK.sub ⟨rfl, rfl, rfl, rfl, rfl, rfl, rfl, rfl, rfl, rfl, rfl, rfl, rfl, rfl, rfl, rfl, rfl, rfl, rfl, rfl, rfl, rfl, rfl, trivial⟩) hE
end Go.Proofs.Ybulkexuo
