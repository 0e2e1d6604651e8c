import Derived.Test.YbulkexuoP12
namespace Go.Proofs.Ybulkexuo
open Go.RowKit
set_option linter.unusedSimpArgs false
set_option linter.unusedVariables false


section
variable (D : PD) (R : List Rs)
def addF (E : List Rs) (q : Nat) : List Rs := if ix E q = 0 ∧ fired D R q = true then E ++ [⟨q, (D.lkp q).1, D.hcnt q, true⟩] else E
def AK (L : List Nat) : Nat → List Rs
  | 0 => EK D R R.length
  | k + 1 => match L[k]? with | some q => addF D R (AK L k) q | none => AK L k
theorem addF_wf {N : Nat} {E : List Rs} (h : WF N E) {q : Nat} (hq : q < N) : WF N (addF D R E q) := by
  unfold addF
  split
  · rename_i h1
    have := h.rz (r := ⟨q, (D.lkp q).1, D.hcnt q, true⟩) hq
    unfold rz at this
    rw [if_pos h1.1] at this
    exact this
  · exact h
theorem AK_wf {N : Nat} (h : WF N R) {L : List Nat} (hL : ∀ q ∈ L, q < N) : ∀ k, WF N (AK D R L k)
  | 0 => EK_wf D R h _
  | k + 1 => by
    unfold AK
    split
    · rename_i q hq
      exact addF_wf D R (AK_wf h hL k) (hL q (List.mem_of_getElem? hq))
    · exact AK_wf h hL k
theorem addF_ix {E : List Rs} {q p : Nat} (h : ix E p ≠ 0) : ix (addF D R E q) p ≠ 0 := by
  unfold addF
  split
  · rw [ix_app, if_pos h]; exact h
  · exact h
theorem AK_ix {L : List Nat} {p : Nat} (h : ix R p ≠ 0) : ∀ k, ix (AK D R L k) p ≠ 0
  | 0 => by
    show ix (EK D R R.length) p ≠ 0
    rw [EK_ix]; exact h
  | k + 1 => by
    unfold AK
    split
    · exact addF_ix D R (AK_ix h k)
    · exact AK_ix h k
end
structure AD (I : IN) (wA : World) (xV : Value) (E : List Rs) (oV : Value) (aB : Nat) (w : World) : Prop where
  ex : EX wA xV E w
  ord : w.ownsRow wA.heap.size 21 1 oV I.D.ord.length (ordL I.D.ord)
  add : w.rowIs aB 4 I.N (fun q => .bool (decide (ix E q ≠ 0 ∧ ix I.R0 q = 0)))
theorem AD.below {I : IN} {wA w w' : World} {xV oV : Value} {E : List Rs} {aB : Nat} (h : AD I wA xV E oV aB w) (hb : Below w.heap.size w w') : AD I wA xV E oV aB w' := ⟨h.ex.below hb, own_below h.ord hb, h.add.of_block (hb.block _ h.add.lt)⟩
theorem ord_lt (I : IN) : ∀ q ∈ I.D.ord, q < I.N := fun q hq => by
  unfold PD.ord at hq
  rcases List.mem_append.1 hq with h | h
  · unfold PD.prs at h
    obtain ⟨e, h1, rfl⟩ := List.mem_map.1 h
    have key : ∀ l, e ∈ I.D.ent l → e.1 < I.D.N := by
      intro l
      induction l with
      | zero => intro h; cases h
      | succ l ih =>
        intro h
        rcases List.mem_append.1 (show e ∈ I.D.ent l ++ I.D.EL l from h) with h | h
        · exact ih h
        · exact (EL_mem (q := e.1) (c := e.2) h).1
    exact key _ h1
  · split at h
    · rw [List.mem_singleton.1 h]; exact Nat.mod_lt _ I.N_pos
    · cases h
theorem ord_len (I : IN) : I.D.ord.length ≤ I.ll * 20 + 1 := by
  have h1 : I.D.eo I.ll ≤ I.ll * 20 := eo_bound I.N_le I.ll
  have h2 : (I.D.prs I.ll).length = I.D.eo I.ll := by unfold PD.prs; rw [List.length_map]; rfl
  have h3 : (if 0 < I.D.asc then [I.D.asp] else []).length ≤ 1 := by split <;> simp
  unfold PD.ord
  rw [List.length_append]
  have : (I.D.prs I.D.ll).length = (I.D.prs I.ll).length := rfl
  omega


set_option maxRecDepth 100000 in
set_option maxHeartbeats 1000000 in
theorem lp20 (I : IN) (w0 : World) (F : Nat → Prop) (arB : Nat) (st : ST) (B : Nat) (e0 l0 : Value) (hB0 hc0 : Nat) (r0 : Value) (mB r0B fB qB : Nat) (hF : I.Fine) (hll : I.ll ≤ 4096) (wA : World) (hQ : FQ I w0 F arB st B e0 l0 hB0 hc0 r0 mB r0B fB qB wA) (oV : Value) (aB : Nat) (haB : wA.heap.size ≤ aB) (Q : Exit → Act → World → Prop) (K : Act → World → Prop) (hKK : ∀ a w xV, Kn 706 ((62, xV) :: (56, .bool (anyk I.D I.R0 I.N)) :: (55, .slice (some ⟨qB, 0, none⟩) I.N I.N) :: (54, .slice (some ⟨fB, 0, none⟩) I.N I.N) :: (51, .slice (some ⟨r0B, 0, none⟩) I.N I.N) :: (50, ptr mB) :: (46, .int .i32 (I.D.asp : Nat)) :: (45, ptr arB) :: (44, r0) :: (43, .slice (some ⟨hB0, 0, none⟩) I.N hc0) :: (42, l0) :: (41, e0) :: (21, .int .i32 I.N) :: LA I) a → EX wA xV (AK I.D I.R0 I.D.ord I.D.ord.length) w → K a w) (a : Act) (w : World) (xV : Value) (hK : Kn 706 ((486, .int .i64 (0 : Nat)) :: (485, .int .i64 I.D.ord.length) :: (484, oV) :: (70, .slice (some ⟨aB, 0, none⟩) I.N I.N) :: (62, xV) :: (56, .bool (anyk I.D I.R0 I.N)) :: (55, .slice (some ⟨qB, 0, none⟩) I.N I.N) :: (54, .slice (some ⟨fB, 0, none⟩) I.N I.N) :: (51, .slice (some ⟨r0B, 0, none⟩) I.N I.N) :: (50, ptr mB) :: (46, .int .i32 (I.D.asp : Nat)) :: (45, ptr arB) :: (44, r0) :: (43, .slice (some ⟨hB0, 0, none⟩) I.N hc0) :: (42, l0) :: (41, e0) :: (21, .int .i32 I.N) :: LA I) a) (hE : AD I wA xV (AK I.D I.R0 I.D.ord 0) oV aB w) :
    Code.wp Yba.prog (nav [1, 1, 1, 1, 1, 1, 1, 1, 1, 1, 1, 1, 1, 1, 1, 1, 1, 1, 1, 1, 1, 1, 1, 1, 1, 1, 1, 1, 1, 1, 1, 1, 1, 1, 1, 1, 1, 0, 1] (Yba.f3.body.getD .skip)) (Exit.then K Q) a w := by
  have hN := I.N_le
  have hD := I.fine hF hll
  have hol := ord_len I
  refine loop_n K (fun n a w => ∃ k xV, k ≤ I.D.ord.length ∧ n = I.D.ord.length - k ∧ Kn 706 ((486, .int .i64 (k : Nat)) :: (485, .int .i64 I.D.ord.length) :: (484, oV) :: (70, .slice (some ⟨aB, 0, none⟩) I.N I.N) :: (62, xV) :: (56, .bool (anyk I.D I.R0 I.N)) :: (55, .slice (some ⟨qB, 0, none⟩) I.N I.N) :: (54, .slice (some ⟨fB, 0, none⟩) I.N I.N) :: (51, .slice (some ⟨r0B, 0, none⟩) I.N I.N) :: (50, ptr mB) :: (46, .int .i32 (I.D.asp : Nat)) :: (45, ptr arB) :: (44, r0) :: (43, .slice (some ⟨hB0, 0, none⟩) I.N hc0) :: (42, l0) :: (41, e0) :: (21, .int .i32 I.N) :: LA I) a ∧ AD I wA xV (AK I.D I.R0 I.D.ord k) oV aB w) ⟨0, xV, Nat.zero_le _, rfl, hK, hE⟩ ?_
  clear hK hE a w xV
  rintro n a w T ⟨k, xV, hk, hn, hK, hE⟩ hR
  refine wp_seq ?_
  refine wp_region_lit ?_
  refine kl hK 487 rfl (by decide) rfl (fun ρ hρ => r_lss3 _ _ rfl (hρ _ _ rfl) (hρ _ _ rfl)) ?_
  clear hK a; intro a hK
  refine wpList_nil ?_
  show Code.wp Yba.prog _ _ _ _
  refine wp_seq ?_
  by_cases hkl : k < I.D.ord.length
  · have tl : ∀ a w xV, Kn 706 ((486, .int .i64 (k : Nat)) :: (485, .int .i64 I.D.ord.length) :: (484, oV) :: (70, .slice (some ⟨aB, 0, none⟩) I.N I.N) :: (62, xV) :: (56, .bool (anyk I.D I.R0 I.N)) :: (55, .slice (some ⟨qB, 0, none⟩) I.N I.N) :: (54, .slice (some ⟨fB, 0, none⟩) I.N I.N) :: (51, .slice (some ⟨r0B, 0, none⟩) I.N I.N) :: (50, ptr mB) :: (46, .int .i32 (I.D.asp : Nat)) :: (45, ptr arB) :: (44, r0) :: (43, .slice (some ⟨hB0, 0, none⟩) I.N hc0) :: (42, l0) :: (41, e0) :: (21, .int .i32 I.N) :: LA I) a → AD I wA xV (AK I.D I.R0 I.D.ord (k + 1)) oV aB w → Code.wp Yba.prog (nav [1, 1, 1, 1, 1, 1, 1, 1, 1, 1, 1, 1, 1, 1, 1, 1, 1, 1, 1, 1, 1, 1, 1, 1, 1, 1, 1, 1, 1, 1, 1, 1, 1, 1, 1, 1, 1, 0, 1, 0, 0, 1, 1, 1] (Yba.f3.body.getD .skip)) (Exit.then T (Exit.inBlock 20 (Exit.then K Q))) a w := by
      clear hK hE a w xV
      intro a w xV hK hE
      conv => arg 2; whnf
      refine wp_region_lit ?_
      refine kl hK 528 rfl (by decide) rfl (fun ρ hρ => r_inc3 _ rfl (by omega) (hρ _ _ rfl) (hρ _ _ rfl)) ?_
      clear hK a; intro a hK
      refine kl hK 486 rfl (by decide) rfl (fun ρ hρ => r_mv _ rfl (hρ _ _ rfl)) ?_
      clear hK a; intro a hK
      refine wpList_nil ?_
      exact hR (I.D.ord.length - (k + 1)) _ _ (by omega) ⟨k + 1, xV, hkl, rfl, hK.sub ⟨rfl, rfl, rfl, rfl, rfl, rfl, rfl, rfl, rfl, rfl, rfl, rfl, rfl, rfl, rfl, rfl, rfl, rfl, rfl, rfl, rfl, rfl, rfl, rfl, rfl, rfl, rfl, trivial⟩, hE⟩
    obtain ⟨q, hq⟩ : ∃ q, I.D.ord[k]? = some q := ⟨_, List.getElem?_eq_getElem hkl⟩
    have hqN := ord_lt I q (List.mem_of_getElem? hq)
    have hwf := AK_wf I.D I.R0 (rsK_wf I I.lr) (ord_lt I) k
    have hwf : WF I.N (AK I.D I.R0 I.D.ord k) := hwf
    have hEl := hwf.len
    have hAk : (AK I.D I.R0 I.D.ord (k + 1)) = addF I.D I.R0 (AK I.D I.R0 I.D.ord k) q := by
      show (match I.D.ord[k]? with | some q => addF I.D I.R0 (AK I.D I.R0 I.D.ord k) q | none => (AK I.D I.R0 I.D.ord k)) = _
      rw [hq]
    have hQ1 := hQ.below hE.ex.bel
    obtain ⟨k0, k1, k2, k3⟩ := hQ1.fm.hand q hqN
    obtain ⟨g, cap, hv⟩ : ∃ g cap, oV = .slice (some ⟨g, 0, none⟩) I.D.ord.length cap := by
      rcases own_slice hE.ord with ⟨_, h2⟩ | ⟨g, cap, h2, -, -⟩
      · omega
      · exact ⟨g, cap, h2⟩
    have hoo := hE.ord
    rw [hv] at hoo
    have o0 := (own_cell hoo (ordL_get hq)).1
    have s0 := hQ1.fm.ra.cell hqN
    have f0 := hQ1.f.cell hqN
    have a0 := hE.add.cell hqN
    refine wp_cond_true (by rw [hK.rho (.tmp 487) _ rfl]; exact congrArg Value.bool (decide_eq_true (by omega))) ?_
    refine wp_skip ?_
    show Code.wp Yba.prog _ _ _ _
    replace hK := hK.sub (M := (486, .int .i64 (k : Nat)) :: (485, .int .i64 I.D.ord.length) :: (484, .slice (some ⟨g, 0, none⟩) I.D.ord.length cap) :: (70, .slice (some ⟨aB, 0, none⟩) I.N I.N) :: (62, xV) :: (56, .bool (anyk I.D I.R0 I.N)) :: (55, .slice (some ⟨qB, 0, none⟩) I.N I.N) :: (54, .slice (some ⟨fB, 0, none⟩) I.N I.N) :: (51, .slice (some ⟨r0B, 0, none⟩) I.N I.N) :: (50, ptr mB) :: (46, .int .i32 (I.D.asp : Nat)) :: (45, ptr arB) :: (44, r0) :: (43, .slice (some ⟨hB0, 0, none⟩) I.N hc0) :: (42, l0) :: (41, e0) :: (21, .int .i32 I.N) :: LA I) ⟨rfl, rfl, by rw [hv]; rfl, rfl, rfl, rfl, rfl, rfl, rfl, rfl, rfl, rfl, rfl, rfl, rfl, rfl, rfl, rfl, rfl, rfl, rfl, rfl, rfl, rfl, rfl, rfl, rfl, trivial⟩
    refine wp_seq ?_
    refine wp_block ?_
    refine wp_seq ?_
    refine wp_region_lit ?_
    refine kl hK 488 rfl (by decide) rfl (fun ρ hρ => r_ix33z _ _ rfl hkl (hρ _ _ rfl) (hρ _ _ rfl)) ?_
    clear hK a; intro a hK
    refine kl hK 489 rfl (by decide) rfl (fun ρ hρ => r_ld21 _ rfl (hρ _ _ rfl) o0) ?_
    clear hK a; intro a hK
    refine kl hK 72 rfl (by decide) rfl (fun ρ hρ => r_as _ rfl (hρ _ _ rfl)) ?_
    clear hK a; intro a hK
    refine wpList_nil ?_
    show Code.wp Yba.prog _ _ _ _
    replace hK := hK.sub (M := (72, .int .i32 (q : Nat)) :: (486, .int .i64 (k : Nat)) :: (485, .int .i64 I.D.ord.length) :: (484, .slice (some ⟨g, 0, none⟩) I.D.ord.length cap) :: (70, .slice (some ⟨aB, 0, none⟩) I.N I.N) :: (62, xV) :: (56, .bool (anyk I.D I.R0 I.N)) :: (55, .slice (some ⟨qB, 0, none⟩) I.N I.N) :: (54, .slice (some ⟨fB, 0, none⟩) I.N I.N) :: (51, .slice (some ⟨r0B, 0, none⟩) I.N I.N) :: (50, ptr mB) :: (46, .int .i32 (I.D.asp : Nat)) :: (45, ptr arB) :: (44, r0) :: (43, .slice (some ⟨hB0, 0, none⟩) I.N hc0) :: (42, l0) :: (41, e0) :: (21, .int .i32 I.N) :: LA I) ⟨rfl, rfl, rfl, rfl, rfl, rfl, rfl, rfl, rfl, rfl, rfl, rfl, rfl, rfl, rfl, rfl, rfl, rfl, rfl, rfl, rfl, rfl, rfl, rfl, rfl, rfl, rfl, rfl, trivial⟩
    refine wp_seq ?_
    by_cases h0 : ix I.R0 q = 0
    · cases hf : fired I.D I.R0 q
      · rw [hf] at f0
        refine wp_region_lit ?_
        refine kl hK 490 rfl (by decide) rfl (fun ρ hρ => r_mv _ rfl (hρ _ _ rfl)) ?_
        clear hK a; intro a hK
        refine kl hK 491 rfl (by decide) rfl (fun ρ hρ => r_mv _ rfl (hρ _ _ rfl)) ?_
        clear hK a; intro a hK
        refine kl hK 492 rfl (by decide) rfl (fun ρ hρ => r_ix33z _ _ rfl hqN (hρ _ _ rfl) (hρ _ _ rfl)) ?_
        clear hK a; intro a hK
        refine kl hK 493 rfl (by decide) rfl (fun ρ hρ => r_ld21 _ rfl (hρ _ _ rfl) s0) ?_
        clear hK a; intro a hK
        refine kl hK 494 rfl (by decide) rfl (fun ρ hρ => r_eql21 _ _ rfl (hρ _ _ rfl) (hρ _ _ rfl)) ?_
        clear hK a; intro a hK
        refine kl hK 495 rfl (by decide) rfl (fun ρ hρ => r_mv _ rfl (hρ _ _ rfl)) ?_
        clear hK a; intro a hK
        refine klg hK 496 5 495 rfl (by decide) rfl (by kernel_rfl) rfl (decide_eq_true (by omega)) (fun ρ hρ => r_mv _ rfl (hρ _ _ rfl)) ?_
        clear hK a; intro a hK
        refine klg hK 497 5 495 rfl (by decide) rfl (by kernel_rfl) rfl (decide_eq_true (by omega)) (fun ρ hρ => r_mv _ rfl (hρ _ _ rfl)) ?_
        clear hK a; intro a hK
        refine klg hK 498 5 495 rfl (by decide) rfl (by kernel_rfl) rfl (decide_eq_true (by omega)) (fun ρ hρ => r_ix42z _ _ rfl hqN (hρ _ _ rfl) (hρ _ _ rfl)) ?_
        clear hK a; intro a hK
        refine klg hK 499 5 495 rfl (by decide) rfl (by kernel_rfl) rfl (decide_eq_true (by omega)) (fun ρ hρ => r_ld4 _ rfl (hρ _ _ rfl) f0) ?_
        clear hK a; intro a hK
        refine kl hK 500 rfl (by decide) rfl (fun ρ hρ => r_pickT _ _ _ rfl (decide_eq_true (by omega)) (hρ _ _ rfl) (hρ _ _ rfl)) ?_
        clear hK a; intro a hK
        refine kl hK 501 rfl (by decide) rfl (fun ρ hρ => r_mv _ rfl (hρ _ _ rfl)) ?_
        clear hK a; intro a hK
        refine klu hK 502 11 501 rfl (by decide) rfl (by kernel_rfl) rfl rfl ?_
        clear hK a; intro a hK
        refine klu hK 503 11 501 rfl (by decide) rfl (by kernel_rfl) rfl rfl ?_
        clear hK a; intro a hK
        refine klu hK 504 11 501 rfl (by decide) rfl (by kernel_rfl) rfl rfl ?_
        clear hK a; intro a hK
        refine klu hK 505 11 501 rfl (by decide) rfl (by kernel_rfl) rfl rfl ?_
        clear hK a; intro a hK
        refine klu hK 506 11 501 rfl (by decide) rfl (by kernel_rfl) rfl rfl ?_
        clear hK a; intro a hK
        refine kl hK 507 rfl (by decide) rfl (fun ρ hρ => r_pickE _ _ _ rfl rfl (hρ _ _ rfl) (hρ _ _ rfl)) ?_
        clear hK a; intro a hK
        refine wpList_nil ?_
        show Code.wp Yba.prog _ _ _ _
        refine wp_cond_false (hK.rho (.tmp 507) _ rfl) ?_
        refine wp_skip ?_
        show Code.wp Yba.prog _ _ _ _
        have hAs : (AK I.D I.R0 I.D.ord (k + 1)) = (AK I.D I.R0 I.D.ord k) := by rw [hAk]; unfold addF; rw [if_neg (fun h => by rw [hf] at h; exact absurd h.2 (by simp))]
        exact tl a w xV (hK.sub ⟨rfl, rfl, by rw [hv]; rfl, rfl, rfl, rfl, rfl, rfl, rfl, rfl, rfl, rfl, rfl, rfl, rfl, rfl, rfl, rfl, rfl, rfl, rfl, rfl, rfl, rfl, rfl, rfl, rfl, trivial⟩) (by rw [hAs]; exact hE)
      · rw [hf] at f0
        refine wp_region_lit ?_
        refine kl hK 490 rfl (by decide) rfl (fun ρ hρ => r_mv _ rfl (hρ _ _ rfl)) ?_
        clear hK a; intro a hK
        refine kl hK 491 rfl (by decide) rfl (fun ρ hρ => r_mv _ rfl (hρ _ _ rfl)) ?_
        clear hK a; intro a hK
        refine kl hK 492 rfl (by decide) rfl (fun ρ hρ => r_ix33z _ _ rfl hqN (hρ _ _ rfl) (hρ _ _ rfl)) ?_
        clear hK a; intro a hK
        refine kl hK 493 rfl (by decide) rfl (fun ρ hρ => r_ld21 _ rfl (hρ _ _ rfl) s0) ?_
        clear hK a; intro a hK
        refine kl hK 494 rfl (by decide) rfl (fun ρ hρ => r_eql21 _ _ rfl (hρ _ _ rfl) (hρ _ _ rfl)) ?_
        clear hK a; intro a hK
        refine kl hK 495 rfl (by decide) rfl (fun ρ hρ => r_mv _ rfl (hρ _ _ rfl)) ?_
        clear hK a; intro a hK
        refine klg hK 496 5 495 rfl (by decide) rfl (by kernel_rfl) rfl (decide_eq_true (by omega)) (fun ρ hρ => r_mv _ rfl (hρ _ _ rfl)) ?_
        clear hK a; intro a hK
        refine klg hK 497 5 495 rfl (by decide) rfl (by kernel_rfl) rfl (decide_eq_true (by omega)) (fun ρ hρ => r_mv _ rfl (hρ _ _ rfl)) ?_
        clear hK a; intro a hK
        refine klg hK 498 5 495 rfl (by decide) rfl (by kernel_rfl) rfl (decide_eq_true (by omega)) (fun ρ hρ => r_ix42z _ _ rfl hqN (hρ _ _ rfl) (hρ _ _ rfl)) ?_
        clear hK a; intro a hK
        refine klg hK 499 5 495 rfl (by decide) rfl (by kernel_rfl) rfl (decide_eq_true (by omega)) (fun ρ hρ => r_ld4 _ rfl (hρ _ _ rfl) f0) ?_
        clear hK a; intro a hK
        refine kl hK 500 rfl (by decide) rfl (fun ρ hρ => r_pickT _ _ _ rfl (decide_eq_true (by omega)) (hρ _ _ rfl) (hρ _ _ rfl)) ?_
        clear hK a; intro a hK
        refine kl hK 501 rfl (by decide) rfl (fun ρ hρ => r_mv _ rfl (hρ _ _ rfl)) ?_
        clear hK a; intro a hK
        refine klg hK 502 11 501 rfl (by decide) rfl (by kernel_rfl) rfl rfl (fun ρ hρ => r_mv _ rfl (hρ _ _ rfl)) ?_
        clear hK a; intro a hK
        refine klg hK 503 11 501 rfl (by decide) rfl (by kernel_rfl) rfl rfl (fun ρ hρ => r_mv _ rfl (hρ _ _ rfl)) ?_
        clear hK a; intro a hK
        refine klg hK 504 11 501 rfl (by decide) rfl (by kernel_rfl) rfl rfl (fun ρ hρ => r_ix42z _ _ rfl hqN (hρ _ _ rfl) (hρ _ _ rfl)) ?_
        clear hK a; intro a hK
        refine klg hK 505 11 501 rfl (by decide) rfl (by kernel_rfl) rfl rfl (fun ρ hρ => r_ld4 _ rfl (hρ _ _ rfl) a0) ?_
        clear hK a; intro a hK
        refine klg hK 506 11 501 rfl (by decide) rfl (by kernel_rfl) rfl rfl (fun ρ hρ => r_not _ rfl (hρ _ _ rfl)) ?_
        clear hK a; intro a hK
        refine kl hK 507 rfl (by decide) rfl (fun ρ hρ => r_pickT _ _ _ rfl rfl (hρ _ _ rfl) (hρ _ _ rfl)) ?_
        clear hK a; intro a hK
        refine wpList_nil ?_
        show Code.wp Yba.prog _ _ _ _
        by_cases he : ix (AK I.D I.R0 I.D.ord k) q = 0
        · skip
          refine wp_cond_true (by rw [hK.rho (.tmp 507) _ rfl]; exact congrArg Value.bool (by rw [decide_eq_false (fun h => h.1 he)]; rfl)) ?_
          replace hK := hK.sub (M := (72, .int .i32 (q : Nat)) :: (486, .int .i64 (k : Nat)) :: (485, .int .i64 I.D.ord.length) :: (484, .slice (some ⟨g, 0, none⟩) I.D.ord.length cap) :: (70, .slice (some ⟨aB, 0, none⟩) I.N I.N) :: (62, xV) :: (56, .bool (anyk I.D I.R0 I.N)) :: (55, .slice (some ⟨qB, 0, none⟩) I.N I.N) :: (54, .slice (some ⟨fB, 0, none⟩) I.N I.N) :: (51, .slice (some ⟨r0B, 0, none⟩) I.N I.N) :: (50, ptr mB) :: (46, .int .i32 (I.D.asp : Nat)) :: (45, ptr arB) :: (44, r0) :: (43, .slice (some ⟨hB0, 0, none⟩) I.N hc0) :: (42, l0) :: (41, e0) :: (21, .int .i32 I.N) :: LA I) ⟨rfl, rfl, rfl, rfl, rfl, rfl, rfl, rfl, rfl, rfl, rfl, rfl, rfl, rfl, rfl, rfl, rfl, rfl, rfl, rfl, rfl, rfl, rfl, rfl, rfl, rfl, rfl, rfl, trivial⟩
          refine wp_seq ?_
          refine wp_region_lit ?_
          refine kl hK 508 rfl (by decide) rfl (fun ρ hρ => r_mv _ rfl (hρ _ _ rfl)) ?_
          clear hK a; intro a hK
          refine kl hK 509 rfl (by decide) rfl (fun ρ hρ => r_mv _ rfl (hρ _ _ rfl)) ?_
          clear hK a; intro a hK
          refine kl hK 510 rfl (by decide) rfl (fun ρ hρ => r_ix42z _ _ rfl hqN (hρ _ _ rfl) (hρ _ _ rfl)) ?_
          clear hK a; intro a hK
          refine kst hK rfl rfl (fun ρ hρ => r_sto4 _ _ rfl (hρ _ _ rfl) (hρ _ _ rfl) a0 (hE.add.frozen _)) ?_
          refine wpList_nil ?_
          show Code.wp Yba.prog _ _ _ _
          have hb1 := hE.ex.bel.setCell (p := ⟨aB, q, none⟩) haB (.bool true)
          have hrow := hE.add.set q (.bool true)
          have hx1 : (w.setCell ⟨aB, q, none⟩ (.bool true)).ownsRow wA.heap.size 46 4 xV (AK I.D I.R0 I.D.ord k).length (riseL (AK I.D I.R0 I.D.ord k)) := own_block hE.ex.own fun b hb => Go.Deep.blk_setCell_other _ _ _ _ fun e => own_ne hE.ex.own hE.add (by decide) (by rw [hb]; exact congrArg some e)
          have ho1 : (w.setCell ⟨aB, q, none⟩ (.bool true)).ownsRow wA.heap.size 21 1 oV I.D.ord.length (ordL I.D.ord) := own_block hE.ord fun b hb => Go.Deep.blk_setCell_other _ _ _ _ fun e => own_ne hE.ord hE.add (by decide) (by rw [hb]; exact congrArg some e)
          generalize (w.setCell ⟨aB, q, none⟩ (.bool true)) = w1 at *
          refine wp_seq ?_
          refine wp_region_lit ?_
          refine kl hK 512 rfl (by decide) rfl (fun ρ hρ => r_mv _ rfl (hρ _ _ rfl)) ?_
          clear hK a; intro a hK
          refine kl hK 513 rfl (by decide) rfl (fun ρ hρ => r_mv _ rfl (hρ _ _ rfl)) ?_
          clear hK a; intro a hK
          refine kc hK 514 rfl (by decide) rfl (fun ρ hρ => r_call10 _ _ rfl (hρ _ _ rfl) (hρ _ _ rfl) (hρ _ _ rfl)) (mlookup_any I.D hD mB q hqN w1 (hQ.below hb1).fm.m) ?_
          rintro e w2 ⟨rfl, hb2⟩
          refine ⟨_, rfl, ?_⟩
          clear hK a; intro a hK
          refine kl hK 511 rfl (by decide) rfl (fun ρ hρ => r_mv _ rfl (hρ _ _ rfl)) ?_
          clear hK a; intro a hK
          refine kl hK 515 rfl (by decide) rfl (fun ρ hρ => r_ext _ 0 rfl (hρ _ _ rfl) rfl) ?_
          clear hK a; intro a hK
          refine kl hK 516 rfl (by decide) rfl (fun ρ hρ => r_ext _ 1 rfl (hρ _ _ rfl) rfl) ?_
          clear hK a; intro a hK
          refine kl hK 73 rfl (by decide) rfl (fun ρ hρ => r_as _ rfl (hρ _ _ rfl)) ?_
          clear hK a; intro a hK
          refine kl hK 74 rfl (by decide) rfl (fun ρ hρ => r_as _ rfl (hρ _ _ rfl)) ?_
          clear hK a; intro a hK
          refine wpList_nil ?_
          show Code.wp Yba.prog _ _ _ _
          have hbel2 := bel_trans hb1 hb2
          have hown := own_below hx1 hb2
          have ho2 := own_below ho1 hb2
          have hrow2 := hrow.of_block (hb2.block _ hrow.lt)
          obtain ⟨j0, j1, j2, j3⟩ := (hQ.below hbel2).fm.hand q hqN
          clear hx1 ho1 hrow hb1 hb2 k0 k1 k2 k3 s0 f0 a0 o0 hoo hQ1 j0 j1 j3
          replace hK := hK.sub (M := (73, .int .i32 (I.D.lkp q).1) :: (72, .int .i32 (q : Nat)) :: (486, .int .i64 (k : Nat)) :: (485, .int .i64 I.D.ord.length) :: (484, .slice (some ⟨g, 0, none⟩) I.D.ord.length cap) :: (70, .slice (some ⟨aB, 0, none⟩) I.N I.N) :: (62, xV) :: (56, .bool (anyk I.D I.R0 I.N)) :: (55, .slice (some ⟨qB, 0, none⟩) I.N I.N) :: (54, .slice (some ⟨fB, 0, none⟩) I.N I.N) :: (51, .slice (some ⟨r0B, 0, none⟩) I.N I.N) :: (50, ptr mB) :: (46, .int .i32 (I.D.asp : Nat)) :: (45, ptr arB) :: (44, r0) :: (43, .slice (some ⟨hB0, 0, none⟩) I.N hc0) :: (42, l0) :: (41, e0) :: (21, .int .i32 I.N) :: LA I) ⟨rfl, rfl, rfl, rfl, rfl, rfl, rfl, rfl, rfl, rfl, rfl, rfl, rfl, rfl, rfl, rfl, rfl, rfl, rfl, rfl, rfl, rfl, rfl, rfl, rfl, rfl, rfl, rfl, rfl, trivial⟩
          refine wp_region_lit ?_
          refine kl hK 517 rfl (by decide) rfl (fun ρ hρ => r_mv _ rfl (hρ _ _ rfl)) ?_
          clear hK a; intro a hK
          refine kl hK 518 rfl (by decide) rfl (fun ρ hρ => r_mv _ rfl (hρ _ _ rfl)) ?_
          clear hK a; intro a hK
          refine kl hK 519 rfl (by decide) rfl (fun ρ hρ => r_mv _ rfl (hρ _ _ rfl)) ?_
          clear hK a; intro a hK
          refine kl hK 520 rfl (by decide) rfl (fun ρ hρ => r_mv _ rfl (hρ _ _ rfl)) ?_
          clear hK a; intro a hK
          refine kl hK 521 rfl (by decide) rfl (fun ρ hρ => r_mv _ rfl (hρ _ _ rfl)) ?_
          clear hK a; intro a hK
          refine kl hK 522 rfl (by decide) rfl (fun ρ hρ => r_ix25z _ _ rfl hqN (hρ _ _ rfl) (hρ _ _ rfl)) ?_
          clear hK a; intro a hK
          refine kl hK 523 rfl (by decide) rfl (fun ρ hρ => r_fa27_2 _ rfl (hρ _ _ rfl)) ?_
          clear hK a; intro a hK
          refine kl hK 524 rfl (by decide) rfl (fun ρ hρ => r_ld21 _ rfl (hρ _ _ rfl) j2) ?_
          clear hK a; intro a hK
          refine kl hK 525 rfl (by decide) rfl (fun ρ hρ => r_b46_0123c _ _ _ rfl (hρ _ _ rfl) (hρ _ _ rfl) (hρ _ _ rfl) (hρ _ _ rfl)) ?_
          clear hK a; intro a hK
          refine kl hK 526 rfl (by decide) rfl (fun ρ hρ => r_bsl41 _ rfl (hρ _ _ rfl)) ?_
          clear hK a; intro a hK
          have hbA := bel_alloc (Below.refl w2.heap.size w2) (.cells #[.int .i32 (q : Nat), .int .i32 (I.D.lkp q).1, .int .i32 (I.D.hcnt q), .bool true] 46)
          have hownA := own_block hown fun b hb => hbA.block b (hown.lt b hb).2
          have hnew : ∀ j u, ([.int .i32 (q : Nat), .int .i32 (I.D.lkp q).1, .int .i32 (I.D.hcnt q), .bool true] : List Value)[j]? = some u → (w2.alloc (.cells #[.int .i32 (q : Nat), .int .i32 (I.D.lkp q).1, .int .i32 (I.D.hcnt q), .bool true] 46)).cell? ((⟨w2.heap.size, 0, none⟩ : Addr).add j) = some u := fun j u hu => by
            have hadd : (⟨w2.heap.size, 0, none⟩ : Addr).add j = ⟨w2.heap.size, j, none⟩ := by unfold Addr.add; split <;> simp_all
            rw [hadd]
            refine cell_new w2 _ 46 ?_
            simpa using hu
          refine kapp hK 527 517 526 41 rfl (by decide) rfl rfl wA.heap.size Yba.underlying41 info46' rfl (by decide) (by decide) rfl rfl hownA (news := [.int .i32 (q : Nat), .int .i32 (I.D.lkp q).1, .int .i32 (I.D.hcnt q), .bool true]) rfl hnew (by simp [Value.oneCell']) (by decide) (by omega) (Nat.le_trans hbel2.size hbA.size) ?_
          intro g cap w4 hownN hgr hat hgl
          clear hK a; intro a hK
          refine kl hK 62 rfl (by decide) rfl (fun ρ hρ => r_as _ rfl (hρ _ _ rfl)) ?_
          clear hK a; intro a hK
          refine wpList_nil ?_
          have hAs : (AK I.D I.R0 I.D.ord (k + 1)) = (AK I.D I.R0 I.D.ord k) ++ [⟨q, (I.D.lkp q).1, I.D.hcnt q, true⟩] := by rw [hAk]; unfold addF; rw [if_pos ⟨he, hf⟩]
          have ho3 := own_below ho2 hbA
          have hrow3 := hrow2.of_block (hbA.block _ hrow2.lt)
          refine tl a w4 _ (hK.sub ⟨rfl, rfl, by rw [hv]; rfl, rfl, rfl, rfl, rfl, rfl, rfl, rfl, rfl, rfl, rfl, rfl, rfl, rfl, rfl, rfl, rfl, rfl, rfl, rfl, rfl, rfl, rfl, rfl, rfl, trivial⟩) ⟨⟨(bel_trans hbel2 hbA).grown hgr (Nat.le_trans hbel2.size hbA.size) fun k hk => (hownA.lt k hk).1, ?_⟩, ho3.kept hgr ?_, ?_⟩
          · rw [hAs, riseL_app, List.length_append]
            exact hownN
          · rcases own_apart ho3 hownA (by decide) with h | h
            · exact .inl h
            · exact .inr h
          · refine rowf (hrow3.of_block (hgr.block aB hrow3.lt fun e => own_ne hownA hrow3 (by decide) e.symm)) fun p _ => ?_
            show (if p = q then (.bool true : Value) else .bool (decide (ix (AK I.D I.R0 I.D.ord k) p ≠ 0 ∧ ix I.R0 p = 0))) = .bool (decide (ix (AK I.D I.R0 I.D.ord (k + 1)) p ≠ 0 ∧ ix I.R0 p = 0))
            rw [hAs, ix_app]
            by_cases e : p = q
            · rw [if_pos e, e, if_neg (by omega), if_pos rfl]
              exact congrArg Value.bool (decide_eq_true ⟨by omega, h0⟩).symm
            · rw [if_neg e]
              by_cases h1 : ix (AK I.D I.R0 I.D.ord k) p ≠ 0
              · rw [if_pos h1]
              · rw [if_neg h1, if_neg fun h => e h.symm]
                exact congrArg Value.bool ((decide_eq_false fun h => h1 h.1).trans (decide_eq_false fun h => h.1 rfl).symm)
        · skip
          refine wp_cond_false (by rw [hK.rho (.tmp 507) _ rfl]; exact congrArg Value.bool (by rw [decide_eq_true ⟨he, h0⟩]; rfl)) ?_
          refine wp_skip ?_
          show Code.wp Yba.prog _ _ _ _
          have hAs : (AK I.D I.R0 I.D.ord (k + 1)) = (AK I.D I.R0 I.D.ord k) := by rw [hAk]; unfold addF; rw [if_neg (fun h => he h.1)]
          exact tl a w xV (hK.sub ⟨rfl, rfl, by rw [hv]; rfl, rfl, rfl, rfl, rfl, rfl, rfl, rfl, rfl, rfl, rfl, rfl, rfl, rfl, rfl, rfl, rfl, rfl, rfl, rfl, rfl, rfl, rfl, rfl, rfl, trivial⟩) (by rw [hAs]; exact hE)
    · have he : ix (AK I.D I.R0 I.D.ord k) q ≠ 0 := AK_ix I.D I.R0 h0 k
      refine wp_region_lit ?_
      refine kl hK 490 rfl (by decide) rfl (fun ρ hρ => r_mv _ rfl (hρ _ _ rfl)) ?_
      clear hK a; intro a hK
      refine kl hK 491 rfl (by decide) rfl (fun ρ hρ => r_mv _ rfl (hρ _ _ rfl)) ?_
      clear hK a; intro a hK
      refine kl hK 492 rfl (by decide) rfl (fun ρ hρ => r_ix33z _ _ rfl hqN (hρ _ _ rfl) (hρ _ _ rfl)) ?_
      clear hK a; intro a hK
      refine kl hK 493 rfl (by decide) rfl (fun ρ hρ => r_ld21 _ rfl (hρ _ _ rfl) s0) ?_
      clear hK a; intro a hK
      refine kl hK 494 rfl (by decide) rfl (fun ρ hρ => r_eql21 _ _ rfl (hρ _ _ rfl) (hρ _ _ rfl)) ?_
      clear hK a; intro a hK
      refine kl hK 495 rfl (by decide) rfl (fun ρ hρ => r_mv _ rfl (hρ _ _ rfl)) ?_
      clear hK a; intro a hK
      refine klu hK 496 5 495 rfl (by decide) rfl (by kernel_rfl) rfl (decide_eq_false (by omega)) ?_
      clear hK a; intro a hK
      refine klu hK 497 5 495 rfl (by decide) rfl (by kernel_rfl) rfl (decide_eq_false (by omega)) ?_
      clear hK a; intro a hK
      refine klu hK 498 5 495 rfl (by decide) rfl (by kernel_rfl) rfl (decide_eq_false (by omega)) ?_
      clear hK a; intro a hK
      refine klu hK 499 5 495 rfl (by decide) rfl (by kernel_rfl) rfl (decide_eq_false (by omega)) ?_
      clear hK a; intro a hK
      refine kl hK 500 rfl (by decide) rfl (fun ρ hρ => r_pickE _ _ _ rfl (decide_eq_false (by omega)) (hρ _ _ rfl) (hρ _ _ rfl)) ?_
      clear hK a; intro a hK
      refine kl hK 501 rfl (by decide) rfl (fun ρ hρ => r_mv _ rfl (hρ _ _ rfl)) ?_
      clear hK a; intro a hK
      refine klu hK 502 11 501 rfl (by decide) rfl (by kernel_rfl) rfl rfl ?_
      clear hK a; intro a hK
      refine klu hK 503 11 501 rfl (by decide) rfl (by kernel_rfl) rfl rfl ?_
      clear hK a; intro a hK
      refine klu hK 504 11 501 rfl (by decide) rfl (by kernel_rfl) rfl rfl ?_
      clear hK a; intro a hK
      refine klu hK 505 11 501 rfl (by decide) rfl (by kernel_rfl) rfl rfl ?_
      clear hK a; intro a hK
      refine klu hK 506 11 501 rfl (by decide) rfl (by kernel_rfl) rfl rfl ?_
      clear hK a; intro a hK
      refine kl hK 507 rfl (by decide) rfl (fun ρ hρ => r_pickE _ _ _ rfl rfl (hρ _ _ rfl) (hρ _ _ rfl)) ?_
      clear hK a; intro a hK
      refine wpList_nil ?_
      show Code.wp Yba.prog _ _ _ _
      refine wp_cond_false (hK.rho (.tmp 507) _ rfl) ?_
      refine wp_skip ?_
      show Code.wp Yba.prog _ _ _ _
      have hAs : (AK I.D I.R0 I.D.ord (k + 1)) = (AK I.D I.R0 I.D.ord k) := by rw [hAk]; unfold addF; rw [if_neg (fun h => he h.1)]
      exact tl a w xV (hK.sub ⟨rfl, rfl, by rw [hv]; rfl, rfl, rfl, rfl, rfl, rfl, rfl, rfl, rfl, rfl, rfl, rfl, rfl, rfl, rfl, rfl, rfl, rfl, rfl, rfl, rfl, rfl, rfl, rfl, rfl, trivial⟩) (by rw [hAs]; exact hE)
  · have hke : k = I.D.ord.length := by omega
    refine wp_cond_false (by rw [hK.rho (.tmp 487) _ rfl]; exact congrArg Value.bool (decide_eq_false (by omega))) ?_
    refine wp_exit ?_
    subst hke
    exact hKK _ _ xV (hK.sub ⟨rfl, rfl, rfl, rfl, rfl, rfl, rfl, rfl, rfl, rfl, rfl, rfl, rfl, rfl, rfl, rfl, rfl, rfl, rfl, rfl, rfl, rfl, rfl, trivial⟩) hE.ex

set_option maxRecDepth 100000 in
set_option maxHeartbeats 1000000 in
theorem y36 (I : IN) (w0 : World) (F : Nat → Prop) (arB : Nat) (st : ST) (B : Nat) (e0 l0 : Value) (hB0 hc0 : Nat) (r0 : Value) (mB r0B fB qB : Nat) (hF : I.Fine) (hll : I.ll ≤ 4096) (wA : World) (xV oV : Value) (hQ : FQ I w0 F arB st B e0 l0 hB0 hc0 r0 mB r0B fB qB wA) (hnext : ∀ a w xV, Kn 706 ((62, xV) :: (56, .bool (anyk I.D I.R0 I.N)) :: (55, .slice (some ⟨qB, 0, none⟩) I.N I.N) :: (54, .slice (some ⟨fB, 0, none⟩) I.N I.N) :: (51, .slice (some ⟨r0B, 0, none⟩) I.N I.N) :: (50, ptr mB) :: (46, .int .i32 (I.D.asp : Nat)) :: (45, ptr arB) :: (44, r0) :: (43, .slice (some ⟨hB0, 0, none⟩) I.N hc0) :: (42, l0) :: (41, e0) :: (21, .int .i32 I.N) :: LA I) a → FQ I w0 F arB st B e0 l0 hB0 hc0 r0 mB r0B fB qB w → w.ownsRow w0.heap.size 46 4 xV (AK I.D I.R0 I.D.ord I.D.ord.length).length (riseL (AK I.D I.R0 I.D.ord I.D.ord.length)) → Code.wp Yba.prog (nav [1, 1, 1, 1, 1, 1, 1, 1, 1, 1, 1, 1, 1, 1, 1, 1, 1, 1, 1, 1, 1, 1, 1, 1, 1, 1, 1, 1, 1, 1, 1, 1, 1, 1, 1, 1, 1, 1] (Yba.f3.body.getD .skip)) (bodyPost Yba.prog Yba.f3 (Post w0)) a w) (a : Act) (w : World) (hK : Kn 706 ((66, oV) :: (62, xV) :: (56, .bool (anyk I.D I.R0 I.N)) :: (55, .slice (some ⟨qB, 0, none⟩) I.N I.N) :: (54, .slice (some ⟨fB, 0, none⟩) I.N I.N) :: (51, .slice (some ⟨r0B, 0, none⟩) I.N I.N) :: (50, ptr mB) :: (46, .int .i32 (I.D.asp : Nat)) :: (45, ptr arB) :: (44, r0) :: (43, .slice (some ⟨hB0, 0, none⟩) I.N hc0) :: (42, l0) :: (41, e0) :: (21, .int .i32 I.N) :: LA I) a) (hO : OR wA xV (EK I.D I.R0 I.R0.length) oV I.D.ord w) :
    Code.wp Yba.prog (nav [1, 1, 1, 1, 1, 1, 1, 1, 1, 1, 1, 1, 1, 1, 1, 1, 1, 1, 1, 1, 1, 1, 1, 1, 1, 1, 1, 1, 1, 1, 1, 1, 1, 1, 1, 1] (Yba.f3.body.getD .skip)) (bodyPost Yba.prog Yba.f3 (Post w0)) a w := by
  have hN := I.N_le
  obtain ⟨ra, rcc, hrv⟩ : ∃ a c, oV = .slice a I.D.ord.length c := by
    rcases own_slice hO.own with ⟨h1, h2⟩ | ⟨g, cap, h2, -, -⟩
    · exact ⟨none, 0, by rw [h2]; exact h1⟩
    · exact ⟨_, _, h2⟩
  conv => arg 2; whnf
  refine wp_seq ?_
  refine wp_region_lit ?_
  refine kl hK 482 rfl (by decide) rfl (fun ρ hρ => r_mv _ rfl (hρ _ _ rfl)) ?_
  clear hK a; intro a hK
  refine kl hK 483 rfl (by decide) rfl (fun ρ hρ => r_make1 42 4 (.bool false) 1 rfl (by decide) Yba.underlying42 info4' _ _ rfl (by omega) (hρ _ _ rfl) (hρ _ _ rfl)) ?_
  clear hK a; intro a hK
  refine kl hK 70 rfl (by decide) rfl (fun ρ hρ => r_as _ rfl (hρ _ _ rfl)) ?_
  clear hK a; intro a hK
  refine wpList_nil ?_
  show Code.wp Yba.prog _ _ _ _
  have hO1 := hO.below (bel_alloc (Below.refl w.heap.size w) (.cells (madeCells #[.bool false] I.N) 4))
  have hadd := World.rowIs_made w (.bool false) I.N 4
  generalize w.alloc (.cells (madeCells #[.bool false] I.N) 4) = w1 at *
  rw [hrv] at hK
  refine wp_seq ?_
  refine wp_seq ?_
  refine wp_region_lit ?_
  refine kl hK 484 rfl (by decide) rfl (fun ρ hρ => r_mv _ rfl (hρ _ _ rfl)) ?_
  clear hK a; intro a hK
  refine kl hK 485 rfl (by decide) rfl (fun ρ hρ => r_len33 _ rfl (hρ _ _ rfl)) ?_
  clear hK a; intro a hK
  refine kl hK 486 rfl (by decide) rfl (fun ρ hρ => r_mv _ rfl (hρ _ _ rfl)) ?_
  clear hK a; intro a hK
  refine wpList_nil ?_
  show Code.wp Yba.prog _ _ _ _
  refine lp20 I w0 F arB st B e0 l0 hB0 hc0 r0 mB r0B fB qB hF hll wA hQ oV w.heap.size hO.ex.bel.size _ _ ?_ a w1 xV (hK.sub ⟨rfl, rfl, by rw [hrv]; rfl, rfl, rfl, rfl, rfl, rfl, rfl, rfl, rfl, rfl, rfl, rfl, rfl, rfl, rfl, rfl, rfl, rfl, rfl, rfl, rfl, rfl, rfl, rfl, rfl, trivial⟩) ⟨hO1.ex, hO1.own, rowf hadd fun q _ => ?_⟩
  · clear hK a
    intro a w2 xV hK hE
    exact hnext a w2 xV (hK.sub ⟨rfl, rfl, rfl, rfl, rfl, rfl, rfl, rfl, rfl, rfl, rfl, rfl, rfl, rfl, rfl, rfl, rfl, rfl, rfl, rfl, rfl, rfl, rfl, trivial⟩) (hQ.below hE.bel) (own_base hE.own hQ.fm.fx.bel.size)
  · refine congrArg Value.bool (decide_eq_false fun h => h.1 ?_).symm
    show ix (EK I.D I.R0 I.R0.length) q = 0
    rw [EK_ix]; exact h.2
end Go.Proofs.Ybulkexuo
