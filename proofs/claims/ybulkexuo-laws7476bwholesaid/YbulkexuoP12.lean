import Derived.Test.YbulkexuoP11
namespace Go.Proofs.Ybulkexuo
open Go.RowKit
set_option linter.unusedSimpArgs false
set_option linter.unusedVariables false


def ordL (L : List Nat) : List Value := L.map fun q => .int .i32 (q : Nat)
theorem ordL_app (L : List Nat) (q : Nat) : ordL (L ++ [q]) = ordL L ++ [.int .i32 (q : Nat)] := by unfold ordL; rw [List.map_append]; rfl
theorem ordL_get {L : List Nat} {k q : Nat} (h : L[k]? = some q) : (ordL L)[k]? = some (.int .i32 (q : Nat)) := by unfold ordL; rw [List.getElem?_map, h]; rfl
def PD.prq (D : PD) (l q : Nat) : List Nat := (D.ent l ++ D.ELq l q).map (·.1)
theorem prq_zero (D : PD) (l : Nat) : D.prq l 0 = D.prs l := by show (D.ent l ++ []).map _ = _; rw [List.append_nil]; rfl
theorem prq_all (D : PD) (l : Nat) : D.prq l D.N = D.prs (l + 1) := rfl
theorem prq_in {D : PD} {l q : Nat} (h : D.bit l q = true) : D.prq l (q + 1) = D.prq l q ++ [q] := by
  unfold PD.prq
  rw [ELq_succ, if_pos h, ← List.append_assoc, List.map_append (l₂ := [_])]
  rfl
theorem prq_out {D : PD} {l q : Nat} (h : ¬ D.bit l q = true) : D.prq l (q + 1) = D.prq l q := by
  unfold PD.prq
  rw [ELq_succ, if_neg h, List.append_nil]
theorem prq_len {D : PD} {l q : Nat} : (D.prq l q).length = D.eo l + rk (D.mask l) q := by
  unfold PD.prq
  rw [List.length_map, List.length_append, ELq_len]; rfl
theorem EX.below {wA w w' : World} {xV : Value} {E : List Rs} (h : EX wA xV E w) (hb : Below w.heap.size w w') : EX wA xV E w' := ⟨bel_trans h.bel hb, own_below h.own hb⟩
structure OR (wA : World) (xV : Value) (E : List Rs) (oV : Value) (L : List Nat) (w : World) : Prop where
  ex : EX wA xV E w
  own : w.ownsRow wA.heap.size 21 1 oV L.length (ordL L)
theorem OR.below {wA w w' : World} {xV oV : Value} {E : List Rs} {L : List Nat} (h : OR wA xV E oV L w) (hb : Below w.heap.size w w') : OR wA xV E oV L w' := ⟨h.ex.below hb, own_below h.own hb⟩
/-- one more in the order -/
theorem OR.app {wA w w' : World} {xV oV : Value} {E : List Rs} {L : List Nat} (h : OR wA xV E oV L w) {q g cap : Nat} (hgr : w.grownBy w' oV.ownBlock) (ho : w'.ownsRow wA.heap.size 21 1 (.slice (some ⟨g, 0, none⟩) (L.length + 1) cap) (L.length + 1) (ordL L ++ [.int .i32 (q : Nat)])) : OR wA xV E (.slice (some ⟨g, 0, none⟩) (L.length + 1) cap) (L ++ [q]) w' := by
  refine ⟨⟨h.ex.bel.grown hgr h.ex.bel.size fun k hk => (h.own.lt k hk).1, h.ex.own.kept hgr ?_⟩, ?_⟩
  · rcases own_apart h.ex.own h.own (by decide) with h1 | h1
    · exact .inl h1
    · exact .inr h1
  · rw [ordL_app, List.length_append]
    exact ho


set_option maxRecDepth 100000 in
set_option maxHeartbeats 1000000 in
theorem lp18 (I : IN) (arB : Nat) (e0 l0 : Value) (hB0 hc0 : Nat) (r0 : Value) (mB r0B fB qB : Nat) (hF : I.Fine) (hll : I.ll ≤ 4096) (wA : World) (xV : Value) (E : List Rs) (l : Nat) (hl : l < I.ll) (xB : Nat) (hxS : wA.heap.size ≤ xB) (Q : Exit → Act → World → Prop) (K : Act → World → Prop) (hKK : ∀ a w oV, Kn 706 ((455, .int .i64 (l : Nat)) :: (454, .int .i64 I.ll) :: (453, .slice I.lA I.ll I.lc) :: (66, oV) :: (62, xV) :: (56, .bool (anyk I.D I.R0 I.N)) :: (55, .slice (some ⟨qB, 0, none⟩) I.N I.N) :: (54, .slice (some ⟨fB, 0, none⟩) I.N I.N) :: (51, .slice (some ⟨r0B, 0, none⟩) I.N I.N) :: (50, ptr mB) :: (46, .int .i32 (I.D.asp : Nat)) :: (45, ptr arB) :: (44, r0) :: (43, .slice (some ⟨hB0, 0, none⟩) I.N hc0) :: (42, l0) :: (41, e0) :: (21, .int .i32 I.N) :: LA I) a → OR wA xV E oV (I.D.prs (l + 1)) w → K a w) (a : Act) (w : World) (oV : Value) (hK : Kn 706 ((69, .int .i32 (0 : Nat)) :: (68, ptr xB) :: (455, .int .i64 (l : Nat)) :: (454, .int .i64 I.ll) :: (453, .slice I.lA I.ll I.lc) :: (66, oV) :: (62, xV) :: (56, .bool (anyk I.D I.R0 I.N)) :: (55, .slice (some ⟨qB, 0, none⟩) I.N I.N) :: (54, .slice (some ⟨fB, 0, none⟩) I.N I.N) :: (51, .slice (some ⟨r0B, 0, none⟩) I.N I.N) :: (50, ptr mB) :: (46, .int .i32 (I.D.asp : Nat)) :: (45, ptr arB) :: (44, r0) :: (43, .slice (some ⟨hB0, 0, none⟩) I.N hc0) :: (42, l0) :: (41, e0) :: (21, .int .i32 I.N) :: LA I) a) (hx : w.rowIs xB 35 2 (fun j => if j = 0 then .int .u32 (I.mask l) else .slice (I.A l) (I.nc l) (I.cc l))) (hE : OR wA xV E oV (I.D.prs l) w) :
    Code.wp Yba.prog (nav [1, 1, 1, 1, 1, 1, 1, 1, 1, 1, 1, 1, 1, 1, 1, 1, 1, 1, 1, 1, 1, 1, 1, 1, 1, 1, 1, 1, 1, 1, 1, 1, 1, 1, 0, 1, 0, 0, 1, 1, 0, 0, 1, 1] (Yba.f3.body.getD .skip)) (Exit.then K Q) a w := by
  have hN := I.N_le
  have heo : I.D.eo l ≤ l * 20 := eo_bound hN l
  have hm := hF.mask l hl
  refine loop_n K (fun n a w => ∃ q oV, q ≤ I.N ∧ n = I.N - q ∧ Kn 706 ((69, .int .i32 (q : Nat)) :: (68, ptr xB) :: (455, .int .i64 (l : Nat)) :: (454, .int .i64 I.ll) :: (453, .slice I.lA I.ll I.lc) :: (66, oV) :: (62, xV) :: (56, .bool (anyk I.D I.R0 I.N)) :: (55, .slice (some ⟨qB, 0, none⟩) I.N I.N) :: (54, .slice (some ⟨fB, 0, none⟩) I.N I.N) :: (51, .slice (some ⟨r0B, 0, none⟩) I.N I.N) :: (50, ptr mB) :: (46, .int .i32 (I.D.asp : Nat)) :: (45, ptr arB) :: (44, r0) :: (43, .slice (some ⟨hB0, 0, none⟩) I.N hc0) :: (42, l0) :: (41, e0) :: (21, .int .i32 I.N) :: LA I) a ∧ w.rowIs xB 35 2 (fun j => if j = 0 then .int .u32 (I.mask l) else .slice (I.A l) (I.nc l) (I.cc l)) ∧ OR wA xV E oV (I.D.prq l q) w) ⟨0, oV, Nat.zero_le _, rfl, hK, hx, by rw [prq_zero]; exact hE⟩ ?_
  clear hK hx hE a w oV
  rintro n a w R ⟨q, oV, hq, hn, hK, hx, hE⟩ hR
  have x0 : w.cell? ⟨xB, 0, none⟩ = some (.int .u32 (I.mask l)) := hx.cell (i := 0) (by omega)
  refine wp_seq ?_
  refine wp_seq ?_
  refine wp_region_lit ?_
  refine kl hK 459 rfl (by decide) rfl (fun ρ hρ => r_mv _ rfl (hρ _ _ rfl)) ?_
  clear hK a; intro a hK
  refine kl hK 460 rfl (by decide) rfl (fun ρ hρ => r_mv _ rfl (hρ _ _ rfl)) ?_
  clear hK a; intro a hK
  refine kl hK 461 rfl (by decide) rfl (fun ρ hρ => r_lss21 _ _ rfl (hρ _ _ rfl) (hρ _ _ rfl)) ?_
  clear hK a; intro a hK
  refine wpList_nil ?_
  show Code.wp Yba.prog _ _ _ _
  by_cases hql : q < I.N
  · have hdl : I.mask l / 2 ^ q ≤ I.mask l := Nat.div_le_self _ _
    have hrk := rk_le (I.mask l) q
    have hpl := prq_len (D := I.D) (l := l) (q := q)
    have hpl : (I.D.prq l q).length = I.D.eo l + rk (I.mask l) q := hpl
    refine wp_cond_true (by rw [hK.rho (.tmp 461) _ rfl]; exact congrArg Value.bool (decide_eq_true (by omega))) ?_
    refine wp_skip ?_
    show Code.wp Yba.prog _ _ _ _
    replace hK := hK.sub (M := (69, .int .i32 (q : Nat)) :: (68, ptr xB) :: (455, .int .i64 (l : Nat)) :: (454, .int .i64 I.ll) :: (453, .slice I.lA I.ll I.lc) :: (66, oV) :: (62, xV) :: (56, .bool (anyk I.D I.R0 I.N)) :: (55, .slice (some ⟨qB, 0, none⟩) I.N I.N) :: (54, .slice (some ⟨fB, 0, none⟩) I.N I.N) :: (51, .slice (some ⟨r0B, 0, none⟩) I.N I.N) :: (50, ptr mB) :: (46, .int .i32 (I.D.asp : Nat)) :: (45, ptr arB) :: (44, r0) :: (43, .slice (some ⟨hB0, 0, none⟩) I.N hc0) :: (42, l0) :: (41, e0) :: (21, .int .i32 I.N) :: LA I) ⟨rfl, rfl, rfl, rfl, rfl, rfl, rfl, rfl, rfl, rfl, rfl, rfl, rfl, rfl, rfl, rfl, rfl, rfl, rfl, rfl, rfl, rfl, rfl, rfl, rfl, rfl, rfl, rfl, rfl, trivial⟩
    refine wp_seq ?_
    refine wp_block ?_
    refine wp_seq ?_
    refine wp_region_lit ?_
    refine kl hK 464 rfl (by decide) rfl (fun ρ hρ => r_fo35_0 _ rfl (hρ _ _ rfl)) ?_
    clear hK a; intro a hK
    refine kl hK 465 rfl (by decide) rfl (fun ρ hρ => r_ld30 _ rfl (hρ _ _ rfl) x0) ?_
    clear hK a; intro a hK
    refine kl hK 466 rfl (by decide) rfl (fun ρ hρ => r_mv _ rfl (hρ _ _ rfl)) ?_
    clear hK a; intro a hK
    refine kl hK 467 rfl (by decide) rfl (fun ρ hρ => r_cn21_36 _ rfl (by omega) (hρ _ _ rfl)) ?_
    clear hK a; intro a hK
    refine kl hK 468 rfl (by decide) rfl (fun ρ hρ => r_shr30 _ _ rfl (by omega) (hρ _ _ rfl) (hρ _ _ rfl)) ?_
    clear hK a; intro a hK
    refine kl hK 469 rfl (by decide) rfl (fun ρ hρ => r_bit _ _ rfl (by omega) (hρ _ _ rfl) (hρ _ _ rfl)) ?_
    clear hK a; intro a hK
    refine kl hK 470 rfl (by decide) rfl (fun ρ hρ => r_eql30 _ _ rfl (hρ _ _ rfl) (hρ _ _ rfl)) ?_
    clear hK a; intro a hK
    refine wpList_nil ?_
    show Code.wp Yba.prog _ _ _ _
    by_cases hbit : I.mask l / 2 ^ q % 2 = 1
    · have hbt : I.D.bit l q = true := decide_eq_true hbit
      refine wp_cond_true (by rw [hK.rho (.tmp 470) _ rfl]; exact congrArg Value.bool (decide_eq_true (by omega))) ?_
      replace hK := hK.sub (M := (69, .int .i32 (q : Nat)) :: (68, ptr xB) :: (455, .int .i64 (l : Nat)) :: (454, .int .i64 I.ll) :: (453, .slice I.lA I.ll I.lc) :: (66, oV) :: (62, xV) :: (56, .bool (anyk I.D I.R0 I.N)) :: (55, .slice (some ⟨qB, 0, none⟩) I.N I.N) :: (54, .slice (some ⟨fB, 0, none⟩) I.N I.N) :: (51, .slice (some ⟨r0B, 0, none⟩) I.N I.N) :: (50, ptr mB) :: (46, .int .i32 (I.D.asp : Nat)) :: (45, ptr arB) :: (44, r0) :: (43, .slice (some ⟨hB0, 0, none⟩) I.N hc0) :: (42, l0) :: (41, e0) :: (21, .int .i32 I.N) :: LA I) ⟨rfl, rfl, rfl, rfl, rfl, rfl, rfl, rfl, rfl, rfl, rfl, rfl, rfl, rfl, rfl, rfl, rfl, rfl, rfl, rfl, rfl, rfl, rfl, rfl, rfl, rfl, rfl, rfl, rfl, trivial⟩
      refine wp_region_lit ?_
      refine kl hK 471 rfl (by decide) rfl (fun ρ hρ => r_mv _ rfl (hρ _ _ rfl)) ?_
      clear hK a; intro a hK
      refine kl hK 472 rfl (by decide) rfl (fun ρ hρ => r_mv _ rfl (hρ _ _ rfl)) ?_
      clear hK a; intro a hK
      refine kl hK 473 rfl (by decide) rfl (fun ρ hρ => r_bsl33 _ rfl (hρ _ _ rfl)) ?_
      clear hK a; intro a hK
      have hbA := bel_alloc (Below.refl w.heap.size w) (.cells #[.int .i32 (q : Nat)] 21)
      have hownA := own_block hE.own fun b hb => hbA.block b (hE.own.lt b hb).2
      have hnew : ∀ j u, ([.int .i32 (q : Nat)] : List Value)[j]? = some u → (w.alloc (.cells #[.int .i32 (q : Nat)] 21)).cell? ((⟨w.heap.size, 0, none⟩ : Addr).add j) = some u := fun j u hu => by
        have hadd : (⟨w.heap.size, 0, none⟩ : Addr).add j = ⟨w.heap.size, j, none⟩ := by unfold Addr.add; split <;> simp_all
        rw [hadd]
        refine cell_new w _ 21 ?_
        simpa using hu
      refine kapp hK 474 471 473 33 rfl (by decide) rfl rfl wA.heap.size Yba.underlying33 info21' rfl (by decide) (by decide) rfl rfl hownA (news := [.int .i32 (q : Nat)]) rfl hnew (by simp [Value.oneCell']) (by decide) (by omega) (Nat.le_trans hE.ex.bel.size hbA.size) ?_
      intro g cap w4 hownN hgr hat hgl
      clear hK a; intro a hK
      refine kl hK 66 rfl (by decide) rfl (fun ρ hρ => r_as _ rfl (hρ _ _ rfl)) ?_
      clear hK a; intro a hK
      refine wpList_nil ?_
      have hE4 := (hE.below hbA).app hgr hownN
      have hx1 := hx.of_block (hbA.block _ hx.lt)
      have hx4 := hx1.of_block (hgr.block xB hx1.lt fun e => own_ne hownA hx1 (by decide) e.symm)
      rw [← prq_in hbt] at hE4
      show Code.wp Yba.prog _ _ _ _
      refine wp_region_lit ?_
      refine kl hK 462 rfl (by decide) rfl (fun ρ hρ => r_mv _ rfl (hρ _ _ rfl)) ?_
      clear hK a; intro a hK
      refine kl hK 463 rfl (by decide) rfl (fun ρ hρ => r_inc21 _ rfl (by omega) (hρ _ _ rfl) (hρ _ _ rfl)) ?_
      clear hK a; intro a hK
      refine kl hK 69 rfl (by decide) rfl (fun ρ hρ => r_as _ rfl (hρ _ _ rfl)) ?_
      clear hK a; intro a hK
      refine wpList_nil ?_
      exact hR (I.N - (q + 1)) _ _ (by omega) ⟨q + 1, _, hql, rfl, hK.sub ⟨rfl, rfl, rfl, rfl, rfl, rfl, rfl, rfl, rfl, rfl, rfl, rfl, rfl, rfl, rfl, rfl, rfl, rfl, rfl, rfl, rfl, rfl, rfl, rfl, rfl, rfl, rfl, rfl, rfl, trivial⟩, hx4, hE4⟩
    · have hbt : ¬ I.D.bit l q = true := fun e => hbit (of_decide_eq_true e)
      refine wp_cond_false (by rw [hK.rho (.tmp 470) _ rfl]; exact congrArg Value.bool (decide_eq_false (by omega))) ?_
      refine wp_skip ?_
      show Code.wp Yba.prog _ _ _ _
      rw [← prq_out hbt] at hE
      refine wp_region_lit ?_
      refine kl hK 462 rfl (by decide) rfl (fun ρ hρ => r_mv _ rfl (hρ _ _ rfl)) ?_
      clear hK a; intro a hK
      refine kl hK 463 rfl (by decide) rfl (fun ρ hρ => r_inc21 _ rfl (by omega) (hρ _ _ rfl) (hρ _ _ rfl)) ?_
      clear hK a; intro a hK
      refine kl hK 69 rfl (by decide) rfl (fun ρ hρ => r_as _ rfl (hρ _ _ rfl)) ?_
      clear hK a; intro a hK
      refine wpList_nil ?_
      exact hR (I.N - (q + 1)) _ _ (by omega) ⟨q + 1, _, hql, rfl, hK.sub ⟨rfl, rfl, rfl, rfl, rfl, rfl, rfl, rfl, rfl, rfl, rfl, rfl, rfl, rfl, rfl, rfl, rfl, rfl, rfl, rfl, rfl, rfl, rfl, rfl, rfl, rfl, rfl, rfl, rfl, trivial⟩, hx, hE⟩
  · have hqe : q = I.N := by omega
    refine wp_cond_false (by rw [hK.rho (.tmp 461) _ rfl]; exact congrArg Value.bool (decide_eq_false (by omega))) ?_
    refine wp_exit ?_
    subst hqe
    exact hKK _ _ oV (hK.sub ⟨rfl, rfl, rfl, rfl, rfl, rfl, rfl, rfl, rfl, rfl, rfl, rfl, rfl, rfl, rfl, rfl, rfl, rfl, rfl, rfl, rfl, rfl, rfl, rfl, rfl, rfl, rfl, trivial⟩) hE

set_option maxRecDepth 100000 in
set_option maxHeartbeats 1000000 in
theorem lp16 (I : IN) (arB : Nat) (e0 l0 : Value) (hB0 hc0 : Nat) (r0 : Value) (mB r0B fB qB : Nat) (hF : I.Fine) (hll : I.ll ≤ 4096) (wA : World) (hI : I.At wA) (xV : Value) (E : List Rs) (Q : Exit → Act → World → Prop) (K : Act → World → Prop) (hKK : ∀ a w oV, Kn 706 ((66, oV) :: (62, xV) :: (56, .bool (anyk I.D I.R0 I.N)) :: (55, .slice (some ⟨qB, 0, none⟩) I.N I.N) :: (54, .slice (some ⟨fB, 0, none⟩) I.N I.N) :: (51, .slice (some ⟨r0B, 0, none⟩) I.N I.N) :: (50, ptr mB) :: (46, .int .i32 (I.D.asp : Nat)) :: (45, ptr arB) :: (44, r0) :: (43, .slice (some ⟨hB0, 0, none⟩) I.N hc0) :: (42, l0) :: (41, e0) :: (21, .int .i32 I.N) :: LA I) a → OR wA xV E oV (I.D.prs I.ll) w → K a w) (a : Act) (w : World) (oV : Value) (hK : Kn 706 ((455, .int .i64 (0 : Nat)) :: (454, .int .i64 I.ll) :: (453, .slice I.lA I.ll I.lc) :: (66, oV) :: (62, xV) :: (56, .bool (anyk I.D I.R0 I.N)) :: (55, .slice (some ⟨qB, 0, none⟩) I.N I.N) :: (54, .slice (some ⟨fB, 0, none⟩) I.N I.N) :: (51, .slice (some ⟨r0B, 0, none⟩) I.N I.N) :: (50, ptr mB) :: (46, .int .i32 (I.D.asp : Nat)) :: (45, ptr arB) :: (44, r0) :: (43, .slice (some ⟨hB0, 0, none⟩) I.N hc0) :: (42, l0) :: (41, e0) :: (21, .int .i32 I.N) :: LA I) a) (hE : OR wA xV E oV [] w) :
    Code.wp Yba.prog (nav [1, 1, 1, 1, 1, 1, 1, 1, 1, 1, 1, 1, 1, 1, 1, 1, 1, 1, 1, 1, 1, 1, 1, 1, 1, 1, 1, 1, 1, 1, 1, 1, 1, 1, 0, 1] (Yba.f3.body.getD .skip)) (Exit.then K Q) a w := by
  refine loop_n K (fun n a w => ∃ l oV, l ≤ I.ll ∧ n = I.ll - l ∧ Kn 706 ((455, .int .i64 (l : Nat)) :: (454, .int .i64 I.ll) :: (453, .slice I.lA I.ll I.lc) :: (66, oV) :: (62, xV) :: (56, .bool (anyk I.D I.R0 I.N)) :: (55, .slice (some ⟨qB, 0, none⟩) I.N I.N) :: (54, .slice (some ⟨fB, 0, none⟩) I.N I.N) :: (51, .slice (some ⟨r0B, 0, none⟩) I.N I.N) :: (50, ptr mB) :: (46, .int .i32 (I.D.asp : Nat)) :: (45, ptr arB) :: (44, r0) :: (43, .slice (some ⟨hB0, 0, none⟩) I.N hc0) :: (42, l0) :: (41, e0) :: (21, .int .i32 I.N) :: LA I) a ∧ OR wA xV E oV (I.D.prs l) w) ⟨0, oV, Nat.zero_le _, rfl, hK, hE⟩ ?_
  clear hK hE a w oV
  rintro n a w R ⟨l, oV, hl, hn, hK, hE⟩ hR
  refine wp_seq ?_
  refine wp_region_lit ?_
  refine kl hK 456 rfl (by decide) rfl (fun ρ hρ => r_lss3 _ _ rfl (hρ _ _ rfl) (hρ _ _ rfl)) ?_
  clear hK a; intro a hK
  refine wpList_nil ?_
  show Code.wp Yba.prog _ _ _ _
  refine wp_seq ?_
  by_cases hll2 : l < I.ll
  · obtain ⟨⟨b, off, ha, hlt, k0, k1⟩, -⟩ := (hI.below hE.ex.bel).lv l hll2
    refine wp_cond_true (by rw [hK.rho (.tmp 456) _ rfl]; exact congrArg Value.bool (decide_eq_true (by omega))) ?_
    refine wp_skip ?_
    show Code.wp Yba.prog _ _ _ _
    have k0 : w.cell? ⟨b, off + l * 2, none⟩ = some (.int .u32 (I.mask l)) := k0
    have k1 : w.cell? ⟨b, off + l * 2 + 1, none⟩ = some (.slice (I.A l) (I.nc l) (I.cc l)) := k1
    refine wp_seq ?_
    refine wp_block ?_
    refine wp_seq ?_
    refine wp_region_lit ?_
    refine kl hK 457 rfl (by decide) rfl (fun ρ hρ => r_ix23p _ _ rfl ha hll2 (hρ _ _ rfl) (hρ _ _ rfl)) ?_
    clear hK a; intro a hK
    refine kl hK 458 rfl (by decide) rfl (fun ρ hρ => r_ld35 _ rfl (hρ _ _ rfl) k0 k1) ?_
    clear hK a; intro a hK
    refine kl hK 68 rfl (by decide) rfl (fun ρ hρ => r_al35 rfl) ?_
    clear hK a; intro a hK
    refine kst hK rfl rfl (fun ρ hρ => r_st35 (w := w) _ _ rfl (hρ _ _ rfl) (hρ _ _ rfl)) ?_
    refine wpList_nil ?_
    show Code.wp Yba.prog _ _ _ _
    have hx : (w.alloc (.cells #[.int .u32 (I.mask l), .slice (I.A l) (I.nc l) (I.cc l)] 35)).rowIs w.heap.size 35 2 (fun j => if j = 0 then .int .u32 (I.mask l) else .slice (I.A l) (I.nc l) (I.cc l)) := World.rowIs_alloc w _ 35 _ fun i hi => by
      match i, hi with
      | 0, _ => rfl
      | 1, _ => rfl
    have hE1 := hE.below (bel_alloc (Below.refl w.heap.size w) (.cells #[.int .u32 (I.mask l), .slice (I.A l) (I.nc l) (I.cc l)] 35))
    have hxS := hE.ex.bel.size
    generalize w.alloc (.cells #[.int .u32 (I.mask l), .slice (I.A l) (I.nc l) (I.cc l)] 35) = w1 at *
    generalize w.heap.size = xB at *
    refine wp_seq ?_
    refine wp_region_lit ?_
    refine kl hK 69 rfl (by decide) rfl (fun ρ hρ => r_as _ rfl (hρ _ _ rfl)) ?_
    clear hK a; intro a hK
    refine wpList_nil ?_
    show Code.wp Yba.prog _ _ _ _
    refine wp_then (lp18 I arB e0 l0 hB0 hc0 r0 mB r0B fB qB hF hll wA xV E l hll2 xB hxS _ _ ?_ a w1 oV (hK.sub ⟨rfl, rfl, rfl, rfl, rfl, rfl, rfl, rfl, rfl, rfl, rfl, rfl, rfl, rfl, rfl, rfl, rfl, rfl, rfl, rfl, rfl, rfl, rfl, rfl, rfl, rfl, rfl, rfl, rfl, trivial⟩) hx hE1)
    clear hK a hx hE1 hE oV
    intro a w2 oV hK hE2
    show Code.wp Yba.prog _ _ _ _
    refine wp_region_lit ?_
    refine kl hK 475 rfl (by decide) rfl (fun ρ hρ => r_inc3 _ rfl (by omega) (hρ _ _ rfl) (hρ _ _ rfl)) ?_
    clear hK a; intro a hK
    refine kl hK 455 rfl (by decide) rfl (fun ρ hρ => r_mv _ rfl (hρ _ _ rfl)) ?_
    clear hK a; intro a hK
    refine wpList_nil ?_
    exact hR (I.ll - (l + 1)) _ _ (by omega) ⟨l + 1, oV, hll2, rfl, hK.sub ⟨rfl, rfl, rfl, rfl, rfl, rfl, rfl, rfl, rfl, rfl, rfl, rfl, rfl, rfl, rfl, rfl, rfl, rfl, rfl, rfl, rfl, rfl, rfl, rfl, rfl, rfl, rfl, trivial⟩, hE2⟩
  · have hle : l = I.ll := by omega
    refine wp_cond_false (by rw [hK.rho (.tmp 456) _ rfl]; exact congrArg Value.bool (decide_eq_false (by omega))) ?_
    refine wp_exit ?_
    subst hle
    exact hKK _ _ oV (hK.sub ⟨rfl, rfl, rfl, rfl, rfl, rfl, rfl, rfl, rfl, rfl, rfl, rfl, rfl, rfl, rfl, rfl, rfl, rfl, rfl, rfl, rfl, rfl, rfl, rfl, trivial⟩) hE

def PD.ord (D : PD) : List Nat := D.prs D.ll ++ if 0 < D.asc then [D.asp] else []

set_option maxRecDepth 100000 in
set_option maxHeartbeats 1000000 in
theorem y31 (I : IN) (w0 : World) (F : Nat → Prop) (arB : Nat) (st : ST) (B : Nat) (e0 l0 : Value) (hB0 hc0 : Nat) (r0 : Value) (mB r0B fB qB : Nat) (hI : I.At w0) (hF : I.Fine) (hll : I.ll ≤ 4096) (hnext : ∀ a w wA xV oV, Kn 706 ((66, oV) :: (62, xV) :: (56, .bool (anyk I.D I.R0 I.N)) :: (55, .slice (some ⟨qB, 0, none⟩) I.N I.N) :: (54, .slice (some ⟨fB, 0, none⟩) I.N I.N) :: (51, .slice (some ⟨r0B, 0, none⟩) I.N I.N) :: (50, ptr mB) :: (46, .int .i32 (I.D.asp : Nat)) :: (45, ptr arB) :: (44, r0) :: (43, .slice (some ⟨hB0, 0, none⟩) I.N hc0) :: (42, l0) :: (41, e0) :: (21, .int .i32 I.N) :: LA I) a → FQ I w0 F arB st B e0 l0 hB0 hc0 r0 mB r0B fB qB wA → OR wA xV (EK I.D I.R0 I.R0.length) oV (I.D.ord) w → Code.wp Yba.prog (nav [1, 1, 1, 1, 1, 1, 1, 1, 1, 1, 1, 1, 1, 1, 1, 1, 1, 1, 1, 1, 1, 1, 1, 1, 1, 1, 1, 1, 1, 1, 1, 1, 1, 1, 1, 1] (Yba.f3.body.getD .skip)) (bodyPost Yba.prog Yba.f3 (Post w0)) a w) (a : Act) (w : World) (hK : Kn 706 ((56, .bool (anyk I.D I.R0 I.N)) :: (55, .slice (some ⟨qB, 0, none⟩) I.N I.N) :: (54, .slice (some ⟨fB, 0, none⟩) I.N I.N) :: (51, .slice (some ⟨r0B, 0, none⟩) I.N I.N) :: (50, ptr mB) :: (46, .int .i32 (I.D.asp : Nat)) :: (45, ptr arB) :: (44, r0) :: (43, .slice (some ⟨hB0, 0, none⟩) I.N hc0) :: (42, l0) :: (41, e0) :: (21, .int .i32 I.N) :: LA I) a) (hM : FQ I w0 F arB st B e0 l0 hB0 hc0 r0 mB r0B fB qB w) :
    Code.wp Yba.prog (nav [1, 1, 1, 1, 1, 1, 1, 1, 1, 1, 1, 1, 1, 1, 1, 1, 1, 1, 1, 1, 1, 1, 1, 1, 1, 1, 1, 1, 1, 1, 1] (Yba.f3.body.getD .skip)) (bodyPost Yba.prog Yba.f3 (Post w0)) a w := by
  have hN := I.N_le
  have hwf : WF I.N I.R0 := rsK_wf I I.lr
  have hlen := hwf.len
  have heo : I.D.eo I.ll ≤ I.ll * 20 := eo_bound hN I.ll
  conv => arg 2; whnf
  refine wp_seq ?_
  refine wp_region_lit ?_
  refine kl hK 403 rfl (by decide) rfl (fun ρ hρ => r_mv _ rfl (hρ _ _ rfl)) ?_
  clear hK a; intro a hK
  refine kc hK 404 rfl (by decide) rfl (fun ρ hρ => r_call8 _ rfl (hρ _ _ rfl) (hρ _ _ rfl)) (clone8 r0 I.R0.length (by omega) (riseL I.R0) w (slIn_of_own hM.fm.fx.c4.fr hM.fm.fx.c4.rne (riseL_one _))) ?_
  rintro e w1 ⟨xV, rfl, hx0, hxn, hb1⟩
  refine ⟨_, rfl, ?_⟩
  clear hK a; intro a hK
  refine kl hK 62 rfl (by decide) rfl (fun ρ hρ => r_as _ rfl (hρ _ _ rfl)) ?_
  clear hK a; intro a hK
  refine wpList_nil ?_
  show Code.wp Yba.prog _ _ _ _
  replace hK := hK.sub (M := (62, xV) :: (56, .bool (anyk I.D I.R0 I.N)) :: (55, .slice (some ⟨qB, 0, none⟩) I.N I.N) :: (54, .slice (some ⟨fB, 0, none⟩) I.N I.N) :: (51, .slice (some ⟨r0B, 0, none⟩) I.N I.N) :: (50, ptr mB) :: (46, .int .i32 (I.D.asp : Nat)) :: (45, ptr arB) :: (44, r0) :: (43, .slice (some ⟨hB0, 0, none⟩) I.N hc0) :: (42, l0) :: (41, e0) :: (21, .int .i32 I.N) :: LA I) ⟨rfl, rfl, rfl, rfl, rfl, rfl, rfl, rfl, rfl, rfl, rfl, rfl, rfl, rfl, rfl, rfl, rfl, rfl, rfl, rfl, rfl, rfl, rfl, trivial⟩
  obtain ⟨ra, rcc, hrv⟩ : ∃ a c, xV = .slice a I.R0.length c := by
    rcases own_slice hx0 with ⟨h1, h2⟩ | ⟨g, cap, h2, -, -⟩
    · exact ⟨none, 0, by rw [h2]; exact h1⟩
    · exact ⟨_, _, h2⟩
  rw [hrv] at hK
  refine wp_seq ?_
  refine wp_seq ?_
  refine wp_region_lit ?_
  refine kl hK 405 rfl (by decide) rfl (fun ρ hρ => r_mv _ rfl (hρ _ _ rfl)) ?_
  clear hK a; intro a hK
  refine kl hK 406 rfl (by decide) rfl (fun ρ hρ => r_len41 _ rfl (hρ _ _ rfl)) ?_
  clear hK a; intro a hK
  refine kl hK 407 rfl (by decide) rfl (fun ρ hρ => r_mv _ rfl (hρ _ _ rfl)) ?_
  clear hK a; intro a hK
  refine wpList_nil ?_
  show Code.wp Yba.prog _ _ _ _
  refine lp14 I w0 F arB st B e0 l0 hB0 hc0 r0 mB r0B fB qB w hM xV _ _ ?_ a w1 (hK.sub ⟨rfl, rfl, by rw [hrv]; rfl, by rw [hrv]; rfl, rfl, rfl, rfl, rfl, rfl, rfl, rfl, rfl, rfl, rfl, rfl, rfl, rfl, rfl, rfl, rfl, rfl, rfl, rfl, rfl, rfl, rfl, trivial⟩) ⟨hb1, hx0⟩
  clear hK a
  intro a w2 hK hE
  show Code.wp Yba.prog _ _ _ _
  refine wp_seq ?_
  refine wp_region_lit ?_
  refine kl hK 66 rfl (by decide) rfl (fun ρ hρ => r_as _ rfl (hρ _ _ rfl)) ?_
  clear hK a; intro a hK
  refine wpList_nil ?_
  show Code.wp Yba.prog _ _ _ _
  refine wp_seq ?_
  refine wp_seq ?_
  refine wp_region_lit ?_
  refine kl hK 453 rfl (by decide) rfl (fun ρ hρ => r_mv _ rfl (hρ _ _ rfl)) ?_
  clear hK a; intro a hK
  refine kl hK 454 rfl (by decide) rfl (fun ρ hρ => r_len23 _ rfl (hρ _ _ rfl)) ?_
  clear hK a; intro a hK
  refine kl hK 455 rfl (by decide) rfl (fun ρ hρ => r_mv _ rfl (hρ _ _ rfl)) ?_
  clear hK a; intro a hK
  refine wpList_nil ?_
  show Code.wp Yba.prog _ _ _ _
  refine lp16 I arB e0 l0 hB0 hc0 r0 mB r0B fB qB hF hll w (hI.below hM.fm.fx.bel) xV _ _ _ ?_ a w2 _ (hK.sub ⟨rfl, rfl, rfl, rfl, rfl, rfl, rfl, rfl, rfl, rfl, rfl, rfl, rfl, rfl, rfl, rfl, rfl, rfl, rfl, rfl, rfl, rfl, rfl, rfl, rfl, rfl, rfl, trivial⟩) ⟨hE, World.ownsRow_nil _ _ _ _⟩
  clear hK a
  intro a w3 oV hK hO
  show Code.wp Yba.prog _ _ _ _
  replace hK := hK.sub (M := (66, oV) :: (62, xV) :: (56, .bool (anyk I.D I.R0 I.N)) :: (55, .slice (some ⟨qB, 0, none⟩) I.N I.N) :: (54, .slice (some ⟨fB, 0, none⟩) I.N I.N) :: (51, .slice (some ⟨r0B, 0, none⟩) I.N I.N) :: (50, ptr mB) :: (46, .int .i32 (I.D.asp : Nat)) :: (45, ptr arB) :: (44, r0) :: (43, .slice (some ⟨hB0, 0, none⟩) I.N hc0) :: (42, l0) :: (41, e0) :: (21, .int .i32 I.N) :: LA I) ⟨rfl, rfl, rfl, rfl, rfl, rfl, rfl, rfl, rfl, rfl, rfl, rfl, rfl, rfl, rfl, rfl, rfl, rfl, rfl, rfl, rfl, rfl, rfl, rfl, trivial⟩
  refine wp_seq ?_
  refine wp_seq ?_
  refine wp_region_lit ?_
  refine kl hK 476 rfl (by decide) rfl (fun ρ hρ => r_mv _ rfl (hρ _ _ rfl)) ?_
  clear hK a; intro a hK
  refine kl hK 477 rfl (by decide) rfl (fun ρ hρ => r_gtr21 _ _ rfl (hρ _ _ rfl) (hρ _ _ rfl)) ?_
  clear hK a; intro a hK
  refine wpList_nil ?_
  show Code.wp Yba.prog _ _ _ _
  have hpl : (I.D.prs I.ll).length = I.D.eo I.ll := by unfold PD.prs; rw [List.length_map]; rfl
  by_cases hasc : 0 < I.asc
  · have ho : I.D.ord = I.D.prs I.ll ++ [I.D.asp] := by unfold PD.ord; rw [if_pos (show 0 < I.D.asc from hasc)]; rfl
    refine wp_cond_true (by rw [hK.rho (.tmp 477) _ rfl]; exact congrArg Value.bool (decide_eq_true hasc)) ?_
    refine wp_region_lit ?_
    refine kl hK 478 rfl (by decide) rfl (fun ρ hρ => r_mv _ rfl (hρ _ _ rfl)) ?_
    clear hK a; intro a hK
    refine kl hK 479 rfl (by decide) rfl (fun ρ hρ => r_mv _ rfl (hρ _ _ rfl)) ?_
    clear hK a; intro a hK
    refine kl hK 480 rfl (by decide) rfl (fun ρ hρ => r_bsl33 _ rfl (hρ _ _ rfl)) ?_
    clear hK a; intro a hK
    have hbA := bel_alloc (Below.refl w3.heap.size w3) (.cells #[.int .i32 (I.D.asp : Nat)] 21)
    have hownA := own_block hO.own fun b hb => hbA.block b (hO.own.lt b hb).2
    have hnew : ∀ j u, ([.int .i32 (I.D.asp : Nat)] : List Value)[j]? = some u → (w3.alloc (.cells #[.int .i32 (I.D.asp : Nat)] 21)).cell? ((⟨w3.heap.size, 0, none⟩ : Addr).add j) = some u := fun j u hu => by
      have hadd : (⟨w3.heap.size, 0, none⟩ : Addr).add j = ⟨w3.heap.size, j, none⟩ := by unfold Addr.add; split <;> simp_all
      rw [hadd]
      refine cell_new w3 _ 21 ?_
      simpa using hu
    refine kapp hK 481 478 480 33 rfl (by decide) rfl rfl w.heap.size Yba.underlying33 info21' rfl (by decide) (by decide) rfl rfl hownA (news := [.int .i32 (I.D.asp : Nat)]) rfl hnew (by simp [Value.oneCell']) (by decide) (by omega) (Nat.le_trans hO.ex.bel.size hbA.size) ?_
    intro g cap w4 hownN hgr hat hgl
    clear hK a; intro a hK
    refine kl hK 66 rfl (by decide) rfl (fun ρ hρ => r_as _ rfl (hρ _ _ rfl)) ?_
    clear hK a; intro a hK
    refine wpList_nil ?_
    have hE4 := (hO.below hbA).app hgr hownN
    rw [← ho] at hE4
    exact hnext a w4 w xV _ (hK.sub ⟨rfl, rfl, rfl, rfl, rfl, rfl, rfl, rfl, rfl, rfl, rfl, rfl, rfl, rfl, rfl, rfl, rfl, rfl, rfl, rfl, rfl, rfl, rfl, rfl, trivial⟩) hM hE4
  · have ho : I.D.ord = I.D.prs I.ll := by unfold PD.ord; rw [if_neg (show ¬ 0 < I.D.asc from hasc), List.append_nil]; rfl
    refine wp_cond_false (by rw [hK.rho (.tmp 477) _ rfl]; exact congrArg Value.bool (decide_eq_false hasc)) ?_
    refine wp_skip ?_
    show Code.wp Yba.prog _ _ _ _
    exact hnext a w3 w xV oV (hK.sub ⟨rfl, rfl, rfl, rfl, rfl, rfl, rfl, rfl, rfl, rfl, rfl, rfl, rfl, rfl, rfl, rfl, rfl, rfl, rfl, rfl, rfl, rfl, rfl, rfl, trivial⟩) hM (by rw [ho]; exact hO)
end Go.Proofs.Ybulkexuo
