import Derived.Test.YbulkexuoP13
namespace Go.Proofs.Ybulkexuo
open Go.RowKit
set_option linter.unusedSimpArgs false
set_option linter.unusedVariables false


theorem nen_run (w : World) (t e : TypeId) (a : Option Addr) (n c : Nat) (h : Yba.prog.underlying t = some (.slice e)) : (binOp .neq t (.slice a n c) (.slice none 0 0)).run Yba.prog w = .ok (.bool !a.isNone) w := by
  have h' : ∀ d : Nat, (Op.equalIn (d + 1) t (.slice a n c) (.slice none 0 0)).run Yba.prog w = .ok a.isNone w := fun d => by
    cases a <;> simp [Op.equalIn, run_underlying h]
  simp only [binOp]
  simp [Op.equal, Op.maxDepth, h' 9999]
section
variable {ρ : Operand → Value} {o : Oper} {w : World}
theorem r_nnil (t e : TypeId) (ht : Yba.prog.underlying t = some (.slice e)) (x : Operand) (ho : o.op = .binOp .neq t x (.const (.slice none 0 0)) t) (h : ρ x = .slice none 0 0) (hk : ρ (.const (.slice none 0 0)) = .slice none 0 0) : (execOp ρ o).run Yba.prog w = .ok (.value (.bool false)) w := by
  have hn := nen_run w t e none 0 0 ht
  unfold execOp; rw [ho]; simp only; go_simp
end
section
variable {P : Program} {ops : Array Oper} {S : World → Prop} {Q : Exit → Act → World → Prop} {a : Act} {w : World} {oi : Oper} {v : Value} {n : Nat} {L : List (Nat × Value)} {b pol : Bool}
theorem ktg (hK : Kn n L a) {i : Nat} (d k g : Nat) {fuel : Nat} {listed : Array Bool} (hi : ops[i]? = some oi) (hs : Region.noSelect ops = true) (hf : Region.free .any ops listed i = true) (hr : (Region.ready .any ops listed).contains i = true)
    (hQ : ∀ c a w, Q (.panic c) (a.put oi.dst v) w → Q (.panic c) a w) (hS : S w) (hd : oi.dst = some d) (hn : d < n) (hg : oi.guard = some (k, pol)) (hk' : (ops[k]?).bind (·.dst) = some g) (hv : lk L g = some (.bool b)) (hb : b = pol) (h : ∀ ρ, Rho L ρ → ∀ w, S w → (execOp ρ oi).run P w = .ok (.value v) w)
    (hk : ∀ a', Kn n ((d, v) :: L) a' → wpAnyH P .any ops Q S fuel (listed.setIfInBounds i true) a' w) : wpAnyH P .any ops Q S (fuel + 1) listed a w :=
  wpAnyH_take hi hs hf hr hQ (Or.inl ⟨by rw [wanted_of hg hk' (hK.get _ _ hv), hb]; simp, h _ hK.rho⟩) hS (by rw [hd]; exact hk _ (hK.put hn v))
theorem kd_callg {fuel : Nat} {listed : Array Bool} (hK : Kn n L a) {i : Nat} (d k g : Nat) (hr : Region.ready .any ops listed = [i]) (ho : ops[i]? = some oi) (hd : oi.dst = some d) (hn : d < n) (hg : oi.guard = some (k, pol)) (hk' : (ops[k]?).bind (·.dst) = some g) (hv : lk L g = some (.bool b)) (hb : b = pol) {fn : Nat} {args : Array Value} {R : Ending → World → Prop} (h : ∀ ρ, Rho L ρ → (execOp ρ oi).run P w = .ok (.enter fn args) w) (hc : Calls P fn args w R)
    (hR : ∀ e w', R e w' → ∃ v, e = .returned v ∧ S w' ∧ ∀ a', Kn n ((d, v) :: L) a' → wpAnyH P .any ops Q S fuel (listed.setIfInBounds i true) a' w') : wpAnyH P .any ops Q S (fuel + 1) listed a w := by
  refine wpAnyH_ready hr (by simp) ?_
  refine AllReadyH.cons ho (fun K' hK' => ?_) AllReadyH.nil
  rw [if_pos (by rw [wanted_of hg hk' (hK.get _ _ hv), hb]; simp)]
  unfold Oper.wp
  rw [h _ hK.rho]
  refine Calls.mono hc fun e w' hr' => ?_
  obtain ⟨v, rfl, hS, hk⟩ := hR e w' hr'
  have : K' (a.put oi.dst v) w' := hK'.out _ _ hS (fun _ => by rw [hd]; exact hk _ (hK.put hn v))
  exact this
end
def IN.EF (I : IN) : List Rs := AK I.D I.R0 I.D.ord I.D.ord.length
theorem EF_wf (I : IN) : WF I.N I.EF := AK_wf I.D I.R0 (rsK_wf I I.lr) (ord_lt I) _
structure TL (I : IN) (w0 : World) (F : Nat → Prop) (arB : Nat) (st : ST) (B : Nat) (e0 l0 : Value) (hB0 hc0 : Nat) (r0 : Value) (mB r0B fB qB : Nat) (xV : Value) (w : World) : Prop where
  fq : FQ I w0 F arB st B e0 l0 hB0 hc0 r0 mB r0B fB qB w
  own : w.ownsRow w0.heap.size 46 4 xV I.EF.length (riseL I.EF)
section
variable {I : IN} {w0 : World} {F : Nat → Prop} {arB : Nat} {st : ST} {B : Nat} {e0 l0 : Value} {hB0 hc0 : Nat} {r0 : Value} {mB r0B fB qB : Nat} {xV : Value} {w w' : World}
theorem TL.below (h : TL I w0 F arB st B e0 l0 hB0 hc0 r0 mB r0B fB qB xV w) (hb : Below w.heap.size w w') : TL I w0 F arB st B e0 l0 hB0 hc0 r0 mB r0B fB qB xV w' := ⟨h.fq.below hb, own_below h.own hb⟩
theorem TL.arb (h : TL I w0 F arB st B e0 l0 hB0 hc0 r0 mB r0B fB qB xV w) (hfin : (fin I.D (I.R0, none)).1 = I.EF) : ARB I.D F w0.heap.size arB st I.EF (fin I.D (I.R0, none)).2 w := by
  have := h.fq.fm.fx.arb
  rw [hfin] at this
  exact this
end


set_option maxRecDepth 100000 in
set_option maxHeartbeats 1000000 in
theorem lp22 (I : IN) (w0 : World) (F : Nat → Prop) (arB : Nat) (st : ST) (B : Nat) (e0 l0 : Value) (hB0 hc0 : Nat) (r0 : Value) (mB r0B fB qB : Nat) (xV : Value) (hfin : (fin I.D (I.R0, none)).1 = I.EF) (Q : Exit → Act → World → Prop) (K : Act → World → Prop) (hKK : ∀ a w, Kn 706 ((62, xV) :: (56, .bool (anyk I.D I.R0 I.N)) :: (55, .slice (some ⟨qB, 0, none⟩) I.N I.N) :: (54, .slice (some ⟨fB, 0, none⟩) I.N I.N) :: (51, .slice (some ⟨r0B, 0, none⟩) I.N I.N) :: (50, ptr mB) :: (46, .int .i32 (I.D.asp : Nat)) :: (45, ptr arB) :: (44, r0) :: (43, .slice (some ⟨hB0, 0, none⟩) I.N hc0) :: (42, l0) :: (41, e0) :: (21, .int .i32 I.N) :: LA I) a → TL I w0 F arB st B e0 l0 hB0 hc0 r0 mB r0B fB qB xV w → K a w) (a : Act) (w : World) (hK : Kn 706 ((539, .int .i64 (0 : Nat)) :: (538, .int .i64 I.EF.length) :: (537, xV) :: (62, xV) :: (56, .bool (anyk I.D I.R0 I.N)) :: (55, .slice (some ⟨qB, 0, none⟩) I.N I.N) :: (54, .slice (some ⟨fB, 0, none⟩) I.N I.N) :: (51, .slice (some ⟨r0B, 0, none⟩) I.N I.N) :: (50, ptr mB) :: (46, .int .i32 (I.D.asp : Nat)) :: (45, ptr arB) :: (44, r0) :: (43, .slice (some ⟨hB0, 0, none⟩) I.N hc0) :: (42, l0) :: (41, e0) :: (21, .int .i32 I.N) :: LA I) a) (hE : TL I w0 F arB st B e0 l0 hB0 hc0 r0 mB r0B fB qB xV w) :
    Code.wp Yba.prog (nav [1, 1, 1, 1, 1, 1, 1, 1, 1, 1, 1, 1, 1, 1, 1, 1, 1, 1, 1, 1, 1, 1, 1, 1, 1, 1, 1, 1, 1, 1, 1, 1, 1, 1, 1, 1, 1, 1, 1, 0, 1] (Yba.f3.body.getD .skip)) (Exit.then K Q) a w := by
  have hN := I.N_le
  have hlen := (EF_wf I).len
  refine loop_n K (fun n a w => ∃ k, k ≤ I.EF.length ∧ n = I.EF.length - k ∧ Kn 706 ((539, .int .i64 (k : Nat)) :: (538, .int .i64 I.EF.length) :: (537, xV) :: (62, xV) :: (56, .bool (anyk I.D I.R0 I.N)) :: (55, .slice (some ⟨qB, 0, none⟩) I.N I.N) :: (54, .slice (some ⟨fB, 0, none⟩) I.N I.N) :: (51, .slice (some ⟨r0B, 0, none⟩) I.N I.N) :: (50, ptr mB) :: (46, .int .i32 (I.D.asp : Nat)) :: (45, ptr arB) :: (44, r0) :: (43, .slice (some ⟨hB0, 0, none⟩) I.N hc0) :: (42, l0) :: (41, e0) :: (21, .int .i32 I.N) :: LA I) a ∧ TL I w0 F arB st B e0 l0 hB0 hc0 r0 mB r0B fB qB xV w) ⟨0, Nat.zero_le _, rfl, hK, hE⟩ ?_
  clear hK hE a w
  rintro n a w T ⟨k, hk, hn, hK, hE⟩ hR
  refine wp_seq ?_
  refine wp_region_lit ?_
  refine kl hK 540 rfl (by decide) rfl (fun ρ hρ => r_lss3 _ _ rfl (hρ _ _ rfl) (hρ _ _ rfl)) ?_
  clear hK a; intro a hK
  refine wpList_nil ?_
  show Code.wp Yba.prog _ _ _ _
  refine wp_seq ?_
  by_cases hkl : k < I.EF.length
  · obtain ⟨r, hr⟩ : ∃ r, I.EF[k]? = some r := ⟨_, List.getElem?_eq_getElem hkl⟩
    obtain ⟨c0, c1, c2, c3⟩ := riseL_get _ k r hr
    have hA := hE.arb hfin
    obtain ⟨g, cap, hv⟩ : ∃ g cap, xV = .slice (some ⟨g, 0, none⟩) I.EF.length cap := by
      rcases own_slice hE.own with ⟨_, h2⟩ | ⟨g, cap, h2, -, -⟩
      · omega
      · exact ⟨g, cap, h2⟩
    obtain ⟨g', cap', hv'⟩ : ∃ g cap, st.rV = .slice (some ⟨g, 0, none⟩) I.EF.length cap := by
      rcases own_slice hA.ar.rr with ⟨_, h2⟩ | ⟨g, cap, h2, -, -⟩
      · omega
      · exact ⟨g, cap, h2⟩
    have ho := hE.own
    rw [hv] at ho
    have ho' := hA.ar.rr
    rw [hv'] at ho'
    have hc := hA.ar.cells.1
    rw [hv'] at hc
    refine wp_cond_true (by rw [hK.rho (.tmp 540) _ rfl]; exact congrArg Value.bool (decide_eq_true (by omega))) ?_
    refine wp_skip ?_
    show Code.wp Yba.prog _ _ _ _
    replace hK := hK.sub (M := (539, .int .i64 (k : Nat)) :: (538, .int .i64 I.EF.length) :: (537, .slice (some ⟨g, 0, none⟩) I.EF.length cap) :: (62, .slice (some ⟨g, 0, none⟩) I.EF.length cap) :: (56, .bool (anyk I.D I.R0 I.N)) :: (55, .slice (some ⟨qB, 0, none⟩) I.N I.N) :: (54, .slice (some ⟨fB, 0, none⟩) I.N I.N) :: (51, .slice (some ⟨r0B, 0, none⟩) I.N I.N) :: (50, ptr mB) :: (46, .int .i32 (I.D.asp : Nat)) :: (45, ptr arB) :: (44, r0) :: (43, .slice (some ⟨hB0, 0, none⟩) I.N hc0) :: (42, l0) :: (41, e0) :: (21, .int .i32 I.N) :: LA I) ⟨rfl, rfl, by rw [hv]; rfl, by rw [hv]; rfl, rfl, rfl, rfl, rfl, rfl, rfl, rfl, rfl, rfl, rfl, rfl, rfl, rfl, rfl, rfl, rfl, rfl, rfl, rfl, rfl, rfl, rfl, trivial⟩
    refine wp_seq ?_
    refine wp_block ?_
    refine wp_seq ?_
    refine wp_region_lit ?_
    refine kl hK 541 rfl (by decide) rfl (fun ρ hρ => r_mv _ rfl (hρ _ _ rfl)) ?_
    clear hK a; intro a hK
    refine kl hK 75 rfl (by decide) rfl (fun ρ hρ => r_as _ rfl (hρ _ _ rfl)) ?_
    clear hK a; intro a hK
    refine wpList_nil ?_
    show Code.wp Yba.prog _ _ _ _
    refine wp_seq ?_
    refine wp_region_quiet_lit (by kernel_rfl) (by kernel_rfl) ?_
    refine kq hK 542 rfl (by decide) rfl (fun ρ hρ w' hw' => r_mv _ rfl (hρ _ _ rfl)) ?_
    clear hK a; intro a hK
    refine kq hK 543 rfl (by decide) rfl (fun ρ hρ w' hw' => r_nil _ rfl (hρ _ _ rfl)) ?_
    clear hK a; intro a hK
    refine kq hK 544 rfl (by decide) rfl (fun ρ hρ w' hw' => r_fo56_9 _ rfl (hρ _ _ rfl)) ?_
    clear hK a; intro a hK
    refine kq hK 545 rfl (by decide) rfl (fun ρ hρ w' hw' => r_ld41 _ rfl (hρ _ _ rfl) (by obtain ⟨n, rfl⟩ := hw'; exact hc)) ?_
    clear hK a; intro a hK
    refine kq hK 546 rfl (by decide) rfl (fun ρ hρ w' hw' => r_mv _ rfl (hρ _ _ rfl)) ?_
    clear hK a; intro a hK
    refine kq hK 547 rfl (by decide) rfl (fun ρ hρ w' hw' => r_ix41z _ _ rfl hkl (hρ _ _ rfl) (hρ _ _ rfl)) ?_
    clear hK a; intro a hK
    refine kq hK 548 rfl (by decide) rfl (fun ρ hρ w' hw' => r_ld46 _ rfl (hρ _ _ rfl) (by obtain ⟨n, rfl⟩ := hw'; exact (own_cell ho' c0).1) (by obtain ⟨n, rfl⟩ := hw'; exact (own_cell ho' c1).1) (by obtain ⟨n, rfl⟩ := hw'; exact (own_cell ho' c2).1) (by obtain ⟨n, rfl⟩ := hw'; exact (own_cell ho' c3).1)) ?_
    clear hK a; intro a hK
    refine kq hK 549 rfl (by decide) rfl (fun ρ hρ w' hw' => r_mv _ rfl (hρ _ _ rfl)) ?_
    clear hK a; intro a hK
    refine kq hK 550 rfl (by decide) rfl (fun ρ hρ w' hw' => r_mv _ rfl (hρ _ _ rfl)) ?_
    clear hK a; intro a hK
    refine kq hK 551 rfl (by decide) rfl (fun ρ hρ w' hw' => r_ix41z _ _ rfl hkl (hρ _ _ rfl) (hρ _ _ rfl)) ?_
    clear hK a; intro a hK
    refine kq hK 552 rfl (by decide) rfl (fun ρ hρ w' hw' => r_ld46 _ rfl (hρ _ _ rfl) (by obtain ⟨n, rfl⟩ := hw'; exact (own_cell ho c0).1) (by obtain ⟨n, rfl⟩ := hw'; exact (own_cell ho c1).1) (by obtain ⟨n, rfl⟩ := hw'; exact (own_cell ho c2).1) (by obtain ⟨n, rfl⟩ := hw'; exact (own_cell ho c3).1)) ?_
    clear hK a; intro a hK
    refine kq hK 553 rfl (by decide) rfl (fun ρ hρ w' hw' => r_same46 _ _ rfl (hρ _ _ rfl) (hρ _ _ rfl)) ?_
    clear hK a; intro a hK
    refine wpQuiet_nil ?_
    rintro w' ⟨m, rfl⟩
    show Code.wp Yba.prog _ _ _ _
    refine wp_cond_false (hK.rho (.tmp 553) _ rfl) ?_
    refine wp_skip ?_
    show Code.wp Yba.prog _ _ _ _
    refine wp_region_lit ?_
    refine kl hK 554 rfl (by decide) rfl (fun ρ hρ => r_inc3 _ rfl (by omega) (hρ _ _ rfl) (hρ _ _ rfl)) ?_
    clear hK a; intro a hK
    refine kl hK 539 rfl (by decide) rfl (fun ρ hρ => r_mv _ rfl (hρ _ _ rfl)) ?_
    clear hK a; intro a hK
    refine wpList_nil ?_
    exact hR (I.EF.length - (k + 1)) _ _ (by omega) ⟨k + 1, hkl, rfl, hK.sub ⟨rfl, rfl, by rw [hv]; rfl, by rw [hv]; rfl, rfl, rfl, rfl, rfl, rfl, rfl, rfl, rfl, rfl, rfl, rfl, rfl, rfl, rfl, rfl, rfl, rfl, rfl, rfl, rfl, rfl, rfl, trivial⟩, hE.below (bel_drewN (Below.refl w.heap.size w) m)⟩
  · have hke : k = I.EF.length := by omega
    refine wp_cond_false (by rw [hK.rho (.tmp 540) _ rfl]; exact congrArg Value.bool (decide_eq_false (by omega))) ?_
    refine wp_exit ?_
    exact hKK _ _ (hK.sub ⟨rfl, rfl, rfl, rfl, rfl, rfl, rfl, rfl, rfl, rfl, rfl, rfl, rfl, rfl, rfl, rfl, rfl, rfl, rfl, rfl, rfl, rfl, rfl, trivial⟩) hE

set_option maxRecDepth 100000 in
set_option maxHeartbeats 1000000 in
theorem y38 (I : IN) (w0 : World) (F : Nat → Prop) (arB : Nat) (st : ST) (B : Nat) (e0 l0 : Value) (hB0 hc0 : Nat) (r0 : Value) (mB r0B fB qB : Nat) (xV : Value) (hfin : (fin I.D (I.R0, none)).1 = I.EF) (hnext : ∀ a w, Kn 706 ((62, xV) :: (56, .bool (anyk I.D I.R0 I.N)) :: (55, .slice (some ⟨qB, 0, none⟩) I.N I.N) :: (54, .slice (some ⟨fB, 0, none⟩) I.N I.N) :: (51, .slice (some ⟨r0B, 0, none⟩) I.N I.N) :: (50, ptr mB) :: (46, .int .i32 (I.D.asp : Nat)) :: (45, ptr arB) :: (44, r0) :: (43, .slice (some ⟨hB0, 0, none⟩) I.N hc0) :: (42, l0) :: (41, e0) :: (21, .int .i32 I.N) :: LA I) a → TL I w0 F arB st B e0 l0 hB0 hc0 r0 mB r0B fB qB xV w → Code.wp Yba.prog (nav [1, 1, 1, 1, 1, 1, 1, 1, 1, 1, 1, 1, 1, 1, 1, 1, 1, 1, 1, 1, 1, 1, 1, 1, 1, 1, 1, 1, 1, 1, 1, 1, 1, 1, 1, 1, 1, 1, 1, 1] (Yba.f3.body.getD .skip)) (bodyPost Yba.prog Yba.f3 (Post w0)) a w) (a : Act) (w : World) (hK : Kn 706 ((62, xV) :: (56, .bool (anyk I.D I.R0 I.N)) :: (55, .slice (some ⟨qB, 0, none⟩) I.N I.N) :: (54, .slice (some ⟨fB, 0, none⟩) I.N I.N) :: (51, .slice (some ⟨r0B, 0, none⟩) I.N I.N) :: (50, ptr mB) :: (46, .int .i32 (I.D.asp : Nat)) :: (45, ptr arB) :: (44, r0) :: (43, .slice (some ⟨hB0, 0, none⟩) I.N hc0) :: (42, l0) :: (41, e0) :: (21, .int .i32 I.N) :: LA I) a) (hE : TL I w0 F arB st B e0 l0 hB0 hc0 r0 mB r0B fB qB xV w) :
    Code.wp Yba.prog (nav [1, 1, 1, 1, 1, 1, 1, 1, 1, 1, 1, 1, 1, 1, 1, 1, 1, 1, 1, 1, 1, 1, 1, 1, 1, 1, 1, 1, 1, 1, 1, 1, 1, 1, 1, 1, 1, 1] (Yba.f3.body.getD .skip)) (bodyPost Yba.prog Yba.f3 (Post w0)) a w := by
  have hA := hE.arb hfin
  obtain ⟨xa, xc, hv⟩ : ∃ a c, xV = .slice a I.EF.length c := by
    rcases own_slice hE.own with ⟨h1, h2⟩ | ⟨g, cap, h2, -, -⟩
    · exact ⟨none, 0, by rw [h2]; exact h1⟩
    · exact ⟨_, _, h2⟩
  obtain ⟨ra, rcc, hrv⟩ : ∃ a c, st.rV = .slice a I.EF.length c := by
    rcases own_slice hA.ar.rr with ⟨h1, h2⟩ | ⟨g, cap, h2, -, -⟩
    · exact ⟨none, 0, by rw [h2]; exact h1⟩
    · exact ⟨_, _, h2⟩
  have hc := hA.ar.cells.1
  rw [hrv] at hc
  rw [hv] at hK
  conv => arg 2; whnf
  refine wp_seq ?_
  refine wp_seq ?_
  refine wp_region_lit ?_
  refine kl hK 529 rfl (by decide) rfl (fun ρ hρ => r_mv _ rfl (hρ _ _ rfl)) ?_
  clear hK a; intro a hK
  refine kl hK 530 rfl (by decide) rfl (fun ρ hρ => r_nil _ rfl (hρ _ _ rfl)) ?_
  clear hK a; intro a hK
  refine kl hK 531 rfl (by decide) rfl (fun ρ hρ => r_fo56_9 _ rfl (hρ _ _ rfl)) ?_
  clear hK a; intro a hK
  refine kl hK 532 rfl (by decide) rfl (fun ρ hρ => r_ld41 _ rfl (hρ _ _ rfl) hc) ?_
  clear hK a; intro a hK
  refine kl hK 533 rfl (by decide) rfl (fun ρ hρ => r_len41 _ rfl (hρ _ _ rfl)) ?_
  clear hK a; intro a hK
  refine kl hK 534 rfl (by decide) rfl (fun ρ hρ => r_mv _ rfl (hρ _ _ rfl)) ?_
  clear hK a; intro a hK
  refine kl hK 535 rfl (by decide) rfl (fun ρ hρ => r_len41 _ rfl (hρ _ _ rfl)) ?_
  clear hK a; intro a hK
  refine kl hK 536 rfl (by decide) rfl (fun ρ hρ => r_neq3 _ _ rfl (hρ _ _ rfl) (hρ _ _ rfl)) ?_
  clear hK a; intro a hK
  refine wpList_nil ?_
  show Code.wp Yba.prog _ _ _ _
  refine wp_cond_false (by rw [hK.rho (.tmp 536) _ rfl]; exact congrArg Value.bool (decide_eq_false (fun h => h rfl))) ?_
  refine wp_skip ?_
  show Code.wp Yba.prog _ _ _ _
  refine wp_seq ?_
  refine wp_seq ?_
  refine wp_region_lit ?_
  refine kl hK 537 rfl (by decide) rfl (fun ρ hρ => r_mv _ rfl (hρ _ _ rfl)) ?_
  clear hK a; intro a hK
  refine kl hK 538 rfl (by decide) rfl (fun ρ hρ => r_len41 _ rfl (hρ _ _ rfl)) ?_
  clear hK a; intro a hK
  refine kl hK 539 rfl (by decide) rfl (fun ρ hρ => r_mv _ rfl (hρ _ _ rfl)) ?_
  clear hK a; intro a hK
  refine wpList_nil ?_
  show Code.wp Yba.prog _ _ _ _
  refine lp22 I w0 F arB st B e0 l0 hB0 hc0 r0 mB r0B fB qB xV hfin _ _ ?_ a w (hK.sub ⟨rfl, rfl, by rw [hv]; rfl, by rw [hv]; rfl, rfl, rfl, rfl, rfl, rfl, rfl, rfl, rfl, rfl, rfl, rfl, rfl, rfl, rfl, rfl, rfl, rfl, rfl, rfl, rfl, rfl, rfl, trivial⟩) hE
  clear hK a
  intro a w1 hK hE1
  exact hnext a w1 (hK.sub ⟨rfl, rfl, rfl, rfl, rfl, rfl, rfl, rfl, rfl, rfl, rfl, rfl, rfl, rfl, rfl, rfl, rfl, rfl, rfl, rfl, rfl, rfl, rfl, trivial⟩) hE1

set_option maxRecDepth 100000 in
set_option maxHeartbeats 1000000 in
theorem lp24 (I : IN) (arB : Nat) (e0 l0 : Value) (hB0 hc0 : Nat) (r0 : Value) (mB r0B fB qB : Nat) (R : List Rs) (hwf : WF I.N R) (wP : World) (base : Nat) (v : Value) (hown : wP.ownsRow base 46 4 v R.length (riseL R)) (tB : Nat) (htB : wP.heap.size ≤ tB) (Q : Exit → Act → World → Prop) (K : Act → World → Prop) (hKK : ∀ a w, Kn 706 ((76, .slice (some ⟨tB, 0, none⟩) I.N I.N) :: (62, v) :: (56, .bool (anyk I.D I.R0 I.N)) :: (55, .slice (some ⟨qB, 0, none⟩) I.N I.N) :: (54, .slice (some ⟨fB, 0, none⟩) I.N I.N) :: (51, .slice (some ⟨r0B, 0, none⟩) I.N I.N) :: (50, ptr mB) :: (46, .int .i32 (I.D.asp : Nat)) :: (45, ptr arB) :: (44, r0) :: (43, .slice (some ⟨hB0, 0, none⟩) I.N hc0) :: (42, l0) :: (41, e0) :: (21, .int .i32 I.N) :: LA I) a → Below wP.heap.size wP w → w.rowIs tB 21 I.N (fun q => .int .i32 (ix R q)) → K a w) (a : Act) (w : World) (hK : Kn 706 ((575, .int .i64 (0 : Nat)) :: (574, .int .i64 R.length) :: (573, v) :: (76, .slice (some ⟨tB, 0, none⟩) I.N I.N) :: (62, v) :: (56, .bool (anyk I.D I.R0 I.N)) :: (55, .slice (some ⟨qB, 0, none⟩) I.N I.N) :: (54, .slice (some ⟨fB, 0, none⟩) I.N I.N) :: (51, .slice (some ⟨r0B, 0, none⟩) I.N I.N) :: (50, ptr mB) :: (46, .int .i32 (I.D.asp : Nat)) :: (45, ptr arB) :: (44, r0) :: (43, .slice (some ⟨hB0, 0, none⟩) I.N hc0) :: (42, l0) :: (41, e0) :: (21, .int .i32 I.N) :: LA I) a) (hb : Below wP.heap.size wP w) (hrow : w.rowIs tB 21 I.N (fun _ => .int .i32 0)) :
    Code.wp Yba.prog (nav [1, 1, 1, 1, 1, 1, 1, 1, 1, 1, 1, 1, 1, 1, 1, 1, 1, 1, 1, 1, 1, 1, 1, 1, 1, 1, 1, 1, 1, 1, 1, 1, 1, 1, 1, 1, 1, 1, 1, 1, 0, 1, 1, 1, 1, 0, 1] (Yba.f3.body.getD .skip)) (Exit.then K Q) a w := by
  have hN := I.N_le
  have hlen := hwf.len
  refine loop_n K (fun n a w => ∃ k, k ≤ R.length ∧ n = R.length - k ∧ Kn 706 ((575, .int .i64 (k : Nat)) :: (574, .int .i64 R.length) :: (573, v) :: (76, .slice (some ⟨tB, 0, none⟩) I.N I.N) :: (62, v) :: (56, .bool (anyk I.D I.R0 I.N)) :: (55, .slice (some ⟨qB, 0, none⟩) I.N I.N) :: (54, .slice (some ⟨fB, 0, none⟩) I.N I.N) :: (51, .slice (some ⟨r0B, 0, none⟩) I.N I.N) :: (50, ptr mB) :: (46, .int .i32 (I.D.asp : Nat)) :: (45, ptr arB) :: (44, r0) :: (43, .slice (some ⟨hB0, 0, none⟩) I.N hc0) :: (42, l0) :: (41, e0) :: (21, .int .i32 I.N) :: LA I) a ∧ Below wP.heap.size wP w ∧ w.rowIs tB 21 I.N (fun q => .int .i32 (plc R k q))) ⟨0, Nat.zero_le _, rfl, hK, hb, rowf hrow fun q _ => by rw [plc_zero]; rfl⟩ ?_
  clear hK hb hrow a w
  rintro n a w T ⟨k, hk, hn, hK, hb, hrow⟩ hR
  refine wp_seq ?_
  refine wp_region_lit ?_
  refine kl hK 576 rfl (by decide) rfl (fun ρ hρ => r_lss3 _ _ rfl (hρ _ _ rfl) (hρ _ _ rfl)) ?_
  clear hK a; intro a hK
  refine wpList_nil ?_
  show Code.wp Yba.prog _ _ _ _
  refine wp_seq ?_
  by_cases hkl : k < R.length
  · obtain ⟨r, hr⟩ : ∃ r, R[k]? = some r := ⟨_, List.getElem?_eq_getElem hkl⟩
    obtain ⟨c0, c1, c2, c3⟩ := riseL_get R k r hr
    have hrN := hwf.lt r (List.mem_of_getElem? hr)
    have hown1 := own_block hown fun b hb' => hb.block b (hown.lt b hb').2
    obtain ⟨g, cap, hv⟩ : ∃ g cap, v = .slice (some ⟨g, 0, none⟩) R.length cap := by
      rcases own_slice hown with ⟨_, h2⟩ | ⟨g, cap, h2, -, -⟩
      · omega
      · exact ⟨g, cap, h2⟩
    rw [hv] at hown1
    replace c0 := (own_cell hown1 c0).1
    replace c1 := (own_cell hown1 c1).1
    replace c2 := (own_cell hown1 c2).1
    replace c3 := (own_cell hown1 c3).1
    refine wp_cond_true (by rw [hK.rho (.tmp 576) _ rfl]; exact congrArg Value.bool (decide_eq_true (by omega))) ?_
    refine wp_skip ?_
    show Code.wp Yba.prog _ _ _ _
    replace hK := hK.sub (M := (575, .int .i64 (k : Nat)) :: (574, .int .i64 R.length) :: (573, .slice (some ⟨g, 0, none⟩) R.length cap) :: (76, .slice (some ⟨tB, 0, none⟩) I.N I.N) :: (62, v) :: (56, .bool (anyk I.D I.R0 I.N)) :: (55, .slice (some ⟨qB, 0, none⟩) I.N I.N) :: (54, .slice (some ⟨fB, 0, none⟩) I.N I.N) :: (51, .slice (some ⟨r0B, 0, none⟩) I.N I.N) :: (50, ptr mB) :: (46, .int .i32 (I.D.asp : Nat)) :: (45, ptr arB) :: (44, r0) :: (43, .slice (some ⟨hB0, 0, none⟩) I.N hc0) :: (42, l0) :: (41, e0) :: (21, .int .i32 I.N) :: LA I) ⟨rfl, rfl, by rw [hv]; rfl, rfl, rfl, rfl, rfl, rfl, rfl, rfl, rfl, rfl, rfl, rfl, rfl, rfl, rfl, rfl, rfl, rfl, rfl, rfl, rfl, rfl, rfl, rfl, rfl, trivial⟩
    refine wp_seq ?_
    refine wp_block ?_
    refine wp_seq ?_
    refine wp_region_lit ?_
    refine kl hK 577 rfl (by decide) rfl (fun ρ hρ => r_mv _ rfl (hρ _ _ rfl)) ?_
    clear hK a; intro a hK
    refine kl hK 578 rfl (by decide) rfl (fun ρ hρ => r_ix41z _ _ rfl hkl (hρ _ _ rfl) (hρ _ _ rfl)) ?_
    clear hK a; intro a hK
    refine kl hK 579 rfl (by decide) rfl (fun ρ hρ => r_ld46 _ rfl (hρ _ _ rfl) c0 c1 c2 c3) ?_
    clear hK a; intro a hK
    refine kl hK 78 rfl (by decide) rfl (fun ρ hρ => r_al46 rfl) ?_
    clear hK a; intro a hK
    refine kl hK 77 rfl (by decide) rfl (fun ρ hρ => r_as _ rfl (hρ _ _ rfl)) ?_
    clear hK a; intro a hK
    refine kst hK rfl rfl (fun ρ hρ => r_st46 (w := w) _ _ rfl (hρ _ _ rfl) (hρ _ _ rfl)) ?_
    refine wpList_nil ?_
    show Code.wp Yba.prog _ _ _ _
    have n0 := cell_new w #[.int .i32 r.p, .int .i32 r.old, .int .i32 r.cnt, .bool r.by_] 46 (i := 0) rfl
    have hb1 := bel_alloc hb (.cells #[.int .i32 r.p, .int .i32 r.old, .int .i32 r.cnt, .bool r.by_] 46)
    have hrow1 := hrow.of_block ((bel_alloc (Below.refl w.heap.size w) (.cells #[.int .i32 r.p, .int .i32 r.old, .int .i32 r.cnt, .bool r.by_] 46)).block _ hrow.lt)
    clear hb hrow hown1 c0 c1 c2 c3
    generalize w.alloc (.cells #[.int .i32 r.p, .int .i32 r.old, .int .i32 r.cnt, .bool r.by_] 46) = w1 at *
    generalize w.heap.size = xB at *
    refine wp_region_lit ?_
    refine kl hK 580 rfl (by decide) rfl (fun ρ hρ => r_mv _ rfl (hρ _ _ rfl)) ?_
    clear hK a; intro a hK
    refine kl hK 581 rfl (by decide) rfl (fun ρ hρ => r_fo46_0 _ rfl (hρ _ _ rfl)) ?_
    clear hK a; intro a hK
    refine kl hK 582 rfl (by decide) rfl (fun ρ hρ => r_ld21 _ rfl (hρ _ _ rfl) n0) ?_
    clear hK a; intro a hK
    refine kl hK 583 rfl (by decide) rfl (fun ρ hρ => r_mv _ rfl (hρ _ _ rfl)) ?_
    clear hK a; intro a hK
    refine kl hK 584 rfl (by decide) rfl (fun ρ hρ => r_inc3 _ rfl (by omega) (hρ _ _ rfl) (hρ _ _ rfl)) ?_
    clear hK a; intro a hK
    refine kl hK 585 rfl (by decide) rfl (fun ρ hρ => r_cn3_21 _ rfl (by omega) (hρ _ _ rfl)) ?_
    clear hK a; intro a hK
    refine kl hK 586 rfl (by decide) rfl (fun ρ hρ => r_ix33z _ _ rfl hrN (hρ _ _ rfl) (hρ _ _ rfl)) ?_
    clear hK a; intro a hK
    refine kst hK rfl rfl (fun ρ hρ => r_sto21 _ _ rfl (hρ _ _ rfl) (hρ _ _ rfl) (hrow1.cell hrN) (hrow1.frozen _)) ?_
    refine wpList_nil ?_
    show Code.wp Yba.prog _ _ _ _
    refine wp_region_lit ?_
    refine kl hK 587 rfl (by decide) rfl (fun ρ hρ => r_inc3 _ rfl (by omega) (hρ _ _ rfl) (hρ _ _ rfl)) ?_
    clear hK a; intro a hK
    refine kl hK 575 rfl (by decide) rfl (fun ρ hρ => r_mv _ rfl (hρ _ _ rfl)) ?_
    clear hK a; intro a hK
    refine wpList_nil ?_
    exact hR (R.length - (k + 1)) _ _ (by omega) ⟨k + 1, hkl, rfl, hK.sub ⟨rfl, rfl, by rw [hv]; rfl, rfl, rfl, rfl, rfl, rfl, rfl, rfl, rfl, rfl, rfl, rfl, rfl, rfl, rfl, rfl, rfl, rfl, rfl, rfl, rfl, rfl, rfl, rfl, rfl, trivial⟩, hb1.setCell (p := ⟨tB, r.p, none⟩) htB _, rowf (hrow1.set r.p (.int .i32 ((k + 1 : Nat) : Int))) fun q _ => by
      have := plc_succ hwf hr q
      rw [← this]
      by_cases e : q = r.p <;> simp [e]⟩
  · have hke : k = R.length := by omega
    refine wp_cond_false (by rw [hK.rho (.tmp 576) _ rfl]; exact congrArg Value.bool (decide_eq_false (by omega))) ?_
    refine wp_exit ?_
    subst hke
    exact hKK _ _ (hK.sub ⟨rfl, rfl, rfl, rfl, rfl, rfl, rfl, rfl, rfl, rfl, rfl, rfl, rfl, rfl, rfl, rfl, rfl, rfl, rfl, rfl, rfl, rfl, rfl, rfl, trivial⟩) hb (rowf hrow fun q _ => by rw [plc_all])

set_option maxRecDepth 100000 in
set_option maxHeartbeats 1000000 in
theorem y40 (I : IN) (w0 : World) (F : Nat → Prop) (arB : Nat) (st : ST) (B : Nat) (e0 l0 : Value) (hB0 hc0 : Nat) (r0 : Value) (mB r0B fB qB : Nat) (xV : Value) (hfin : (fin I.D (I.R0, none)).1 = I.EF) (hnext : ∀ a w, Kn 706 ((62, xV) :: (56, .bool (anyk I.D I.R0 I.N)) :: (55, .slice (some ⟨qB, 0, none⟩) I.N I.N) :: (54, .slice (some ⟨fB, 0, none⟩) I.N I.N) :: (51, .slice (some ⟨r0B, 0, none⟩) I.N I.N) :: (50, ptr mB) :: (46, .int .i32 (I.D.asp : Nat)) :: (45, ptr arB) :: (44, r0) :: (43, .slice (some ⟨hB0, 0, none⟩) I.N hc0) :: (42, l0) :: (41, e0) :: (21, .int .i32 I.N) :: LA I) a → TL I w0 F arB st B e0 l0 hB0 hc0 r0 mB r0B fB qB xV w → Code.wp Yba.prog (nav [1, 1, 1, 1, 1, 1, 1, 1, 1, 1, 1, 1, 1, 1, 1, 1, 1, 1, 1, 1, 1, 1, 1, 1, 1, 1, 1, 1, 1, 1, 1, 1, 1, 1, 1, 1, 1, 1, 1, 1, 1] (Yba.f3.body.getD .skip)) (bodyPost Yba.prog Yba.f3 (Post w0)) a w) (a : Act) (w : World) (hK : Kn 706 ((62, xV) :: (56, .bool (anyk I.D I.R0 I.N)) :: (55, .slice (some ⟨qB, 0, none⟩) I.N I.N) :: (54, .slice (some ⟨fB, 0, none⟩) I.N I.N) :: (51, .slice (some ⟨r0B, 0, none⟩) I.N I.N) :: (50, ptr mB) :: (46, .int .i32 (I.D.asp : Nat)) :: (45, ptr arB) :: (44, r0) :: (43, .slice (some ⟨hB0, 0, none⟩) I.N hc0) :: (42, l0) :: (41, e0) :: (21, .int .i32 I.N) :: LA I) a) (hE : TL I w0 F arB st B e0 l0 hB0 hc0 r0 mB r0B fB qB xV w) :
    Code.wp Yba.prog (nav [1, 1, 1, 1, 1, 1, 1, 1, 1, 1, 1, 1, 1, 1, 1, 1, 1, 1, 1, 1, 1, 1, 1, 1, 1, 1, 1, 1, 1, 1, 1, 1, 1, 1, 1, 1, 1, 1, 1, 1] (Yba.f3.body.getD .skip)) (bodyPost Yba.prog Yba.f3 (Post w0)) a w := by
  have hN := I.N_le
  have hN1 := I.N_pos
  have hA := hE.arb hfin
  obtain ⟨xa, xc, hv⟩ : ∃ a c, xV = .slice a I.EF.length c := by
    rcases own_slice hE.own with ⟨h1, h2⟩ | ⟨g, cap, h2, -, -⟩
    · exact ⟨none, 0, by rw [h2]; exact h1⟩
    · exact ⟨_, _, h2⟩
  have hc := hA.ar.cells.2.1
  rw [hv] at hK
  conv => arg 2; whnf
  refine wp_seq ?_
  refine wp_seq ?_
  refine wp_region_lit ?_
  refine kl hK 555 rfl (by decide) rfl (fun ρ hρ => r_mv _ rfl (hρ _ _ rfl)) ?_
  clear hK a; intro a hK
  refine kl hK 556 rfl (by decide) rfl (fun ρ hρ => r_len41 _ rfl (hρ _ _ rfl)) ?_
  clear hK a; intro a hK
  refine kl hK 557 rfl (by decide) rfl (fun ρ hρ => r_eql3 _ _ rfl (hρ _ _ rfl) (hρ _ _ rfl)) ?_
  clear hK a; intro a hK
  refine wpList_nil ?_
  show Code.wp Yba.prog _ _ _ _
  by_cases h0 : I.EF.length = 0
  · have hnil := hA.nil.2 (List.eq_nil_of_length_eq_zero h0)
    rw [hnil] at hc
    refine wp_cond_true (by rw [hK.rho (.tmp 557) _ rfl]; exact congrArg Value.bool (decide_eq_true (by omega))) ?_
    refine wp_seq ?_
    refine wp_region_lit ?_
    refine kl hK 558 rfl (by decide) rfl (fun ρ hρ => r_mv _ rfl (hρ _ _ rfl)) ?_
    clear hK a; intro a hK
    refine kl hK 559 rfl (by decide) rfl (fun ρ hρ => r_nil _ rfl (hρ _ _ rfl)) ?_
    clear hK a; intro a hK
    refine kl hK 560 rfl (by decide) rfl (fun ρ hρ => r_fo56_10 _ rfl (hρ _ _ rfl)) ?_
    clear hK a; intro a hK
    refine kl hK 561 rfl (by decide) rfl (fun ρ hρ => r_ld33 _ rfl (hρ _ _ rfl) hc) ?_
    clear hK a; intro a hK
    refine kl hK 562 rfl (by decide) rfl (fun ρ hρ => r_nnil 33 21 Yba.underlying33 _ rfl (hρ _ _ rfl) (hρ _ _ rfl)) ?_
    clear hK a; intro a hK
    refine wpList_nil ?_
    show Code.wp Yba.prog _ _ _ _
    refine wp_cond_false (hK.rho (.tmp 562) _ rfl) ?_
    refine wp_skip ?_
    show Code.wp Yba.prog _ _ _ _
    exact hnext a w (hK.sub ⟨by rw [hv]; rfl, rfl, rfl, rfl, rfl, rfl, rfl, rfl, rfl, rfl, rfl, rfl, rfl, rfl, rfl, rfl, rfl, rfl, rfl, rfl, rfl, rfl, rfl, trivial⟩) hE
  · obtain ⟨rb, hra, hrow⟩ : ∃ b, st.raV = .slice (some ⟨b, 0, none⟩) I.N I.N ∧ w.rowIs b 21 I.N (fun p => .int .i32 (ix I.EF p)) := by
      rcases hA.ar.ra with ⟨h1, _⟩ | h
      · exact absurd (by rw [hA.nil.1 h1]; rfl) h0
      · exact h
    rw [hra] at hc
    refine wp_cond_false (by rw [hK.rho (.tmp 557) _ rfl]; exact congrArg Value.bool (decide_eq_false (by omega))) ?_
    refine wp_seq ?_
    refine wp_seq ?_
    refine wp_region_lit ?_
    refine kl hK 563 rfl (by decide) rfl (fun ρ hρ => r_mv _ rfl (hρ _ _ rfl)) ?_
    clear hK a; intro a hK
    refine kl hK 564 rfl (by decide) rfl (fun ρ hρ => r_nil _ rfl (hρ _ _ rfl)) ?_
    clear hK a; intro a hK
    refine kl hK 565 rfl (by decide) rfl (fun ρ hρ => r_fo56_10 _ rfl (hρ _ _ rfl)) ?_
    clear hK a; intro a hK
    refine kl hK 566 rfl (by decide) rfl (fun ρ hρ => r_ld33 _ rfl (hρ _ _ rfl) hc) ?_
    clear hK a; intro a hK
    refine kl hK 567 rfl (by decide) rfl (fun ρ hρ => r_len33 _ rfl (hρ _ _ rfl)) ?_
    clear hK a; intro a hK
    refine kl hK 568 rfl (by decide) rfl (fun ρ hρ => r_mv _ rfl (hρ _ _ rfl)) ?_
    clear hK a; intro a hK
    refine kl hK 569 rfl (by decide) rfl (fun ρ hρ => r_cn21_3 _ rfl (by omega) (hρ _ _ rfl)) ?_
    clear hK a; intro a hK
    refine kl hK 570 rfl (by decide) rfl (fun ρ hρ => r_neq3 _ _ rfl (hρ _ _ rfl) (hρ _ _ rfl)) ?_
    clear hK a; intro a hK
    refine wpList_nil ?_
    show Code.wp Yba.prog _ _ _ _
    refine wp_cond_false (by rw [hK.rho (.tmp 570) _ rfl]; exact congrArg Value.bool (decide_eq_false (fun h => h rfl))) ?_
    refine wp_skip ?_
    show Code.wp Yba.prog _ _ _ _
    refine wp_seq ?_
    refine wp_region_lit ?_
    refine kl hK 571 rfl (by decide) rfl (fun ρ hρ => r_mv _ rfl (hρ _ _ rfl)) ?_
    clear hK a; intro a hK
    refine kl hK 572 rfl (by decide) rfl (fun ρ hρ => r_make1 33 21 (.int .i32 0) 4 rfl (by decide) Yba.underlying33 info21' _ _ rfl (by omega) (hρ _ _ rfl) (hρ _ _ rfl)) ?_
    clear hK a; intro a hK
    refine kl hK 76 rfl (by decide) rfl (fun ρ hρ => r_as _ rfl (hρ _ _ rfl)) ?_
    clear hK a; intro a hK
    refine wpList_nil ?_
    show Code.wp Yba.prog _ _ _ _
    have hbA := bel_alloc (Below.refl w.heap.size w) (.cells (madeCells #[.int .i32 0] I.N) 21)
    have hmade := World.rowIs_made w (.int .i32 0) I.N 21
    generalize w.alloc (.cells (madeCells #[.int .i32 0] I.N) 21) = w1 at *
    refine wp_seq ?_
    refine wp_seq ?_
    refine wp_region_lit ?_
    refine kl hK 573 rfl (by decide) rfl (fun ρ hρ => r_mv _ rfl (hρ _ _ rfl)) ?_
    clear hK a; intro a hK
    refine kl hK 574 rfl (by decide) rfl (fun ρ hρ => r_len41 _ rfl (hρ _ _ rfl)) ?_
    clear hK a; intro a hK
    refine kl hK 575 rfl (by decide) rfl (fun ρ hρ => r_mv _ rfl (hρ _ _ rfl)) ?_
    clear hK a; intro a hK
    refine wpList_nil ?_
    show Code.wp Yba.prog _ _ _ _
    refine lp24 I arB e0 l0 hB0 hc0 r0 mB r0B fB qB I.EF (EF_wf I) w w0.heap.size xV hE.own w.heap.size (Nat.le_refl _) _ _ ?_ a w1 (hK.sub ⟨rfl, rfl, by rw [hv]; rfl, rfl, by rw [hv]; rfl, rfl, rfl, rfl, rfl, rfl, rfl, rfl, rfl, rfl, rfl, rfl, rfl, rfl, rfl, rfl, rfl, rfl, rfl, rfl, rfl, rfl, rfl, trivial⟩) hbA hmade
    clear hK a hbA hmade w1
    intro a w1 hK hb1 hwant
    show Code.wp Yba.prog _ _ _ _
    have hc1 := (hb1.cell (p := ⟨arB, 14, none⟩) hA.ar.arow).trans hc
    have hrow1 := hrow.of_block (hb1.block _ hrow.lt)
    refine wp_seq ?_
    refine wp_region_lit ?_
    refine kl hK 588 rfl (by decide) rfl (fun ρ hρ => r_mv _ rfl (hρ _ _ rfl)) ?_
    clear hK a; intro a hK
    refine kl hK 589 rfl (by decide) rfl (fun ρ hρ => r_nil _ rfl (hρ _ _ rfl)) ?_
    clear hK a; intro a hK
    refine kl hK 590 rfl (by decide) rfl (fun ρ hρ => r_fo56_10 _ rfl (hρ _ _ rfl)) ?_
    clear hK a; intro a hK
    refine kl hK 591 rfl (by decide) rfl (fun ρ hρ => r_ld33 _ rfl (hρ _ _ rfl) hc1) ?_
    clear hK a; intro a hK
    refine kl hK 592 rfl (by decide) rfl (fun ρ hρ => r_mv _ rfl (hρ _ _ rfl)) ?_
    clear hK a; intro a hK
    refine kc hK 593 rfl (by decide) rfl (fun ρ hρ => r_call12 _ _ rfl (hρ _ _ rfl) (hρ _ _ rfl) (hρ _ _ rfl)) (equal12 (some ⟨rb, 0, none⟩) (some ⟨w.heap.size, 0, none⟩) I.N I.N I.N (by omega) (fun k => (ix I.EF k : Nat)) w1 (fun _ => ⟨rb, w.heap.size, rfl, rfl, hrow1.lt, hwant.lt, fun k hk => ⟨hrow1.cell (by omega), hwant.cell (by omega)⟩⟩)) ?_
    rintro e w2 ⟨rfl, hb2⟩
    refine ⟨_, rfl, ?_⟩
    clear hK a; intro a hK
    refine kl hK 594 rfl (by decide) rfl (fun ρ hρ => r_not _ rfl (hρ _ _ rfl)) ?_
    clear hK a; intro a hK
    refine wpList_nil ?_
    show Code.wp Yba.prog _ _ _ _
    refine wp_cond_false (hK.rho (.tmp 594) _ rfl) ?_
    refine wp_skip ?_
    show Code.wp Yba.prog _ _ _ _
    exact hnext a w2 (hK.sub ⟨rfl, rfl, rfl, rfl, rfl, rfl, rfl, rfl, rfl, rfl, rfl, rfl, rfl, rfl, rfl, rfl, rfl, rfl, rfl, rfl, rfl, rfl, rfl, trivial⟩) ((hE.below hb1).below hb2)
end Go.Proofs.Ybulkexuo
