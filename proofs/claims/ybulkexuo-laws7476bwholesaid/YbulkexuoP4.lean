import Derived.Test.YbulkexuoP3
namespace Go.Proofs.Ybulkexuo
open Go.RowKit
set_option linter.unusedSimpArgs false
set_option linter.unusedVariables false


/-! ### the rises that are given -/
section
variable (I : IN)
def IN.rp (i : Nat) : Nat := u32 (I.rP i) % I.N
def IN.rsK : Nat → List Rs
  | 0 => []
  | i + 1 => if ix (IN.rsK i) (I.rp i) = 0 then IN.rsK i ++ [⟨I.rp i, I.rO i, I.rC i, I.rB i⟩] else IN.rsK i
def IN.R0 : List Rs := I.rsK I.lr
theorem rp_lt (i : Nat) : I.rp i < I.N := Nat.mod_lt _ I.N_pos
theorem rsK_wf : ∀ i, WF I.N (I.rsK i)
  | 0 => ⟨List.nodup_nil, fun r hr => by cases hr⟩
  | i + 1 => by
    unfold IN.rsK
    split
    · rename_i h
      have := (rsK_wf i).rz (r := ⟨I.rp i, I.rO i, I.rC i, I.rB i⟩) (rp_lt I i)
      unfold rz at this
      rw [if_pos h] at this
      exact this
    · exact rsK_wf i
end
theorem rowf {w : World} {b : Nat} {t : TypeId} {n : Nat} {f f' : Nat → Value} (h : w.rowIs b t n f) (e : ∀ i, i < n → f i = f' i) : w.rowIs b t n f' := by
  obtain ⟨c, h1, h2, h3⟩ := h
  exact ⟨c, h1, h2, fun i hi => by rw [h3 i hi, e i hi]⟩
/-- the places of the first k -/
def plc (R : List Rs) (k q : Nat) : Nat := if ix R q ≤ k then ix R q else 0
theorem ix_at {N : Nat} {R : List Rs} (h : WF N R) {k : Nat} {r : Rs} (hr : R[k]? = some r) : ix R r.p = k + 1 := by
  have hnd := h.nd
  have hk : k < R.length := (List.getElem?_eq_some_iff.1 hr).1
  have hne : ix R r.p ≠ 0 := fun e => ix_none R r.p e r (List.mem_of_getElem? hr) rfl
  obtain ⟨r', h1, h2⟩ := ix_some R r.p hne
  have hk' : ix R r.p - 1 < R.length := (List.getElem?_eq_some_iff.1 h1).1
  have e1 : (R.map Rs.p)[ix R r.p - 1]? = some r.p := by rw [List.getElem?_map, h1]; simp [h2]
  have e2 : (R.map Rs.p)[k]? = some r.p := by rw [List.getElem?_map, hr]; rfl
  have := (List.getElem?_inj (by rw [List.length_map]; exact hk') hnd).1 (e1.trans e2.symm)
  omega
theorem plc_zero (R : List Rs) (q : Nat) : plc R 0 q = 0 := by unfold plc; split <;> omega
theorem plc_all (R : List Rs) (q : Nat) : plc R R.length q = ix R q := by unfold plc; rw [if_pos (ix_le R q)]
theorem plc_succ {N : Nat} {R : List Rs} (h : WF N R) {k : Nat} {r : Rs} (hr : R[k]? = some r) (q : Nat) : (if q = r.p then k + 1 else plc R k q) = plc R (k + 1) q := by
  unfold plc
  by_cases e : q = r.p
  · subst e
    rw [if_pos rfl, ix_at h hr, if_pos (Nat.le_refl _)]
  · rw [if_neg e]
    by_cases h1 : ix R q ≤ k
    · rw [if_pos h1, if_pos (by omega)]
    · rw [if_neg h1]
      by_cases h2 : ix R q = k + 1
      · exfalso
        obtain ⟨r', h3, h4⟩ := ix_some R q (by omega)
        rw [h2, Nat.add_sub_cancel, hr] at h3
        cases h3
        exact e h4.symm
      · rw [if_neg (by omega)]


structure RI (I : IN) (wR : World) (tB : Nat) (rV : Value) (i : Nat) (w : World) : Prop where
  bel : Below wR.heap.size wR w
  tk : w.rowIs tB 4 I.N (fun q => .bool (decide (ix (I.rsK i) q ≠ 0)))
  own : w.ownsRow wR.heap.size 46 4 rV (I.rsK i).length (riseL (I.rsK i))
  ne : rV ≠ .slice none 0 0 → 0 < (I.rsK i).length
theorem RI.below {I : IN} {wR w w' : World} {tB i : Nat} {rV : Value} (h : RI I wR tB rV i w) (hb : Below w.heap.size w w') : RI I wR tB rV i w' :=
  ⟨bel_trans h.bel hb, h.tk.of_block (hb.block _ h.tk.lt), own_block h.own fun b hb' => hb.block b (h.own.lt b hb').2, h.ne⟩

set_option maxRecDepth 100000 in
set_option maxHeartbeats 1000000 in
theorem lp6 (I : IN) (hF : I.Fine) (hlr : I.lr ≤ 65536) (HB : Nat) (wR : World) (hI : I.At wR) (tB : Nat) (htB : wR.heap.size ≤ tB) (eV lV : Value) (Q : Exit → Act → World → Prop) (K : Act → World → Prop) (hKK : ∀ a w rV, Kn 706 ((34, .slice none 0 0) :: (33, rV) :: (26, lV) :: (25, eV) :: (22, .slice (some ⟨HB, 0, none⟩) I.N I.N) :: (21, .int .i32 I.N) :: LA I) a → RI I wR tB rV I.lr w → K a w) (a : Act) (w : World) (rV : Value) (hK : Kn 706 ((204, .int .i64 (0 : Nat)) :: (203, .int .i64 I.lr) :: (202, .slice I.rA I.lr I.rc) :: (35, .slice (some ⟨tB, 0, none⟩) I.N I.N) :: (34, .slice none 0 0) :: (33, rV) :: (26, lV) :: (25, eV) :: (22, .slice (some ⟨HB, 0, none⟩) I.N I.N) :: (21, .int .i32 I.N) :: LA I) a) (hE : RI I wR tB rV 0 w) :
    Code.wp Yba.prog (nav [1, 1, 1, 1, 1, 1, 1, 1, 1, 1, 1, 1, 0, 1] (Yba.f3.body.getD .skip)) (Exit.then K Q) a w := by
  have hN := I.N_le
  have hN1 := I.N_pos
  refine loop_n K (fun n a w => ∃ i rV, i ≤ I.lr ∧ n = I.lr - i ∧ Kn 706 ((204, .int .i64 (i : Nat)) :: (203, .int .i64 I.lr) :: (202, .slice I.rA I.lr I.rc) :: (35, .slice (some ⟨tB, 0, none⟩) I.N I.N) :: (34, .slice none 0 0) :: (33, rV) :: (26, lV) :: (25, eV) :: (22, .slice (some ⟨HB, 0, none⟩) I.N I.N) :: (21, .int .i32 I.N) :: LA I) a ∧ RI I wR tB rV i w) ⟨0, rV, Nat.zero_le _, rfl, hK, hE⟩ ?_
  clear hK hE a w rV
  rintro n a w R ⟨i, rV, hi, hn, hK, hE⟩ hR
  refine wp_seq ?_
  refine wp_region_lit ?_
  refine kl hK 205 rfl (by decide) rfl (fun ρ hρ => r_lss3 _ _ rfl (hρ _ _ rfl) (hρ _ _ rfl)) ?_
  clear hK a; intro a hK
  refine wpList_nil ?_
  show Code.wp Yba.prog _ _ _ _
  refine wp_seq ?_
  by_cases hil : i < I.lr
  · obtain ⟨b, off, ha, hlt, k0, k1, k2, k3⟩ := (hI.below hE.bel).rs i hil
    refine wp_cond_true (by rw [hK.rho (.tmp 205) _ rfl]; exact congrArg Value.bool (decide_eq_true (by omega))) ?_
    refine wp_skip ?_
    show Code.wp Yba.prog _ _ _ _
    refine wp_seq ?_
    refine wp_block ?_
    refine wp_seq ?_
    refine wp_region_lit ?_
    refine kl hK 206 rfl (by decide) rfl (fun ρ hρ => r_ix24p _ _ rfl ha hil (hρ _ _ rfl) (hρ _ _ rfl)) ?_
    clear hK a; intro a hK
    refine kl hK 207 rfl (by decide) rfl (fun ρ hρ => r_ld44 _ rfl (hρ _ _ rfl) k0 k1 k2 k3) ?_
    clear hK a; intro a hK
    refine kl hK 37 rfl (by decide) rfl (fun ρ hρ => r_al44 rfl) ?_
    clear hK a; intro a hK
    refine kst hK rfl rfl (fun ρ hρ => r_st44 (w := w) _ _ rfl (hρ _ _ rfl) (hρ _ _ rfl)) ?_
    refine wpList_nil ?_
    show Code.wp Yba.prog _ _ _ _
    have n0 := cell_new w #[.int .i32 (I.rP i), .int .i32 (I.rO i), .int .i32 (I.rC i), .bool (I.rB i)] 44 (i := 0) rfl
    have n1 := cell_new w #[.int .i32 (I.rP i), .int .i32 (I.rO i), .int .i32 (I.rC i), .bool (I.rB i)] 44 (i := 1) rfl
    have n2 := cell_new w #[.int .i32 (I.rP i), .int .i32 (I.rO i), .int .i32 (I.rC i), .bool (I.rB i)] 44 (i := 2) rfl
    have n3 := cell_new w #[.int .i32 (I.rP i), .int .i32 (I.rO i), .int .i32 (I.rC i), .bool (I.rB i)] 44 (i := 3) rfl
    have hE1 := hE.below (bel_alloc (Below.refl w.heap.size w) (.cells #[.int .i32 (I.rP i), .int .i32 (I.rO i), .int .i32 (I.rC i), .bool (I.rB i)] 44))
    have hxS := hE.bel.size
    have hxne : w.heap.size ≠ tB := fun e => by have := hE.tk.lt; omega
    clear hE
    generalize w.alloc (.cells #[.int .i32 (I.rP i), .int .i32 (I.rO i), .int .i32 (I.rC i), .bool (I.rB i)] 44) = w1 at *
    generalize w.heap.size = xB at *
    have hu : IntKind.u32.wrap (I.rP i) = ((u32 (I.rP i) : Nat) : Int) := by rw [IntKind.wrap_u32]; unfold u32; omega
    have hrl := rp_lt I i
    have hrl' : u32 (I.rP i) % I.N < I.N := hrl
    replace hK := hK.sub (M := (37, ptr xB) :: (204, .int .i64 (i : Nat)) :: (203, .int .i64 I.lr) :: (202, .slice I.rA I.lr I.rc) :: (35, .slice (some ⟨tB, 0, none⟩) I.N I.N) :: (34, .slice none 0 0) :: (33, rV) :: (26, lV) :: (25, eV) :: (22, .slice (some ⟨HB, 0, none⟩) I.N I.N) :: (21, .int .i32 I.N) :: LA I) ⟨rfl, rfl, rfl, rfl, rfl, rfl, rfl, rfl, rfl, rfl, rfl, rfl, rfl, rfl, rfl, rfl, rfl, rfl, rfl, rfl, rfl, trivial⟩
    refine wp_seq ?_
    refine wp_region_lit ?_
    refine kl hK 208 rfl (by decide) rfl (fun ρ hρ => r_fo44_0 _ rfl (hρ _ _ rfl)) ?_
    clear hK a; intro a hK
    refine kl hK 209 rfl (by decide) rfl (fun ρ hρ => r_ld21 _ rfl (hρ _ _ rfl) n0) ?_
    clear hK a; intro a hK
    refine kl hK 210 rfl (by decide) rfl (fun ρ hρ => r_cv21_30 _ rfl hu (hρ _ _ rfl)) ?_
    clear hK a; intro a hK
    refine kl hK 211 rfl (by decide) rfl (fun ρ hρ => r_mv _ rfl (hρ _ _ rfl)) ?_
    clear hK a; intro a hK
    refine kl hK 212 rfl (by decide) rfl (fun ρ hρ => r_cn21_30 _ rfl (by omega) (hρ _ _ rfl)) ?_
    clear hK a; intro a hK
    refine kl hK 213 rfl (by decide) rfl (fun ρ hρ => r_rem30 _ _ rfl hN1 (hρ _ _ rfl) (hρ _ _ rfl)) ?_
    clear hK a; intro a hK
    refine kl hK 214 rfl (by decide) rfl (fun ρ hρ => r_cn30_21 _ rfl (by omega) (hρ _ _ rfl)) ?_
    clear hK a; intro a hK
    refine kl hK 38 rfl (by decide) rfl (fun ρ hρ => r_as _ rfl (hρ _ _ rfl)) ?_
    clear hK a; intro a hK
    refine wpList_nil ?_
    show Code.wp Yba.prog _ _ _ _
    replace hK := hK.sub (M := (38, .int .i32 (I.rp i : Nat)) :: (37, ptr xB) :: (204, .int .i64 (i : Nat)) :: (203, .int .i64 I.lr) :: (202, .slice I.rA I.lr I.rc) :: (35, .slice (some ⟨tB, 0, none⟩) I.N I.N) :: (34, .slice none 0 0) :: (33, rV) :: (26, lV) :: (25, eV) :: (22, .slice (some ⟨HB, 0, none⟩) I.N I.N) :: (21, .int .i32 I.N) :: LA I) ⟨rfl, rfl, rfl, rfl, rfl, rfl, rfl, rfl, rfl, rfl, rfl, rfl, rfl, rfl, rfl, rfl, rfl, rfl, rfl, rfl, rfl, rfl, trivial⟩
    refine wp_seq ?_
    refine wp_seq ?_
    refine wp_region_lit ?_
    refine kl hK 215 rfl (by decide) rfl (fun ρ hρ => r_mv _ rfl (hρ _ _ rfl)) ?_
    clear hK a; intro a hK
    refine kl hK 216 rfl (by decide) rfl (fun ρ hρ => r_mv _ rfl (hρ _ _ rfl)) ?_
    clear hK a; intro a hK
    refine kl hK 217 rfl (by decide) rfl (fun ρ hρ => r_ix42z _ _ rfl hrl (hρ _ _ rfl) (hρ _ _ rfl)) ?_
    clear hK a; intro a hK
    refine kl hK 218 rfl (by decide) rfl (fun ρ hρ => r_ld4 _ rfl (hρ _ _ rfl) (hE1.tk.cell hrl)) ?_
    clear hK a; intro a hK
    refine wpList_nil ?_
    show Code.wp Yba.prog _ _ _ _
    by_cases htk : ix (I.rsK i) (I.rp i) = 0
    · skip
      refine wp_cond_false (by rw [hK.rho (.tmp 218) _ rfl]; exact congrArg Value.bool (decide_eq_false (by omega))) ?_
      refine wp_skip ?_
      show Code.wp Yba.prog _ _ _ _
      replace hK := hK.sub (M := (38, .int .i32 (I.rp i : Nat)) :: (37, ptr xB) :: (204, .int .i64 (i : Nat)) :: (203, .int .i64 I.lr) :: (202, .slice I.rA I.lr I.rc) :: (35, .slice (some ⟨tB, 0, none⟩) I.N I.N) :: (34, .slice none 0 0) :: (33, rV) :: (26, lV) :: (25, eV) :: (22, .slice (some ⟨HB, 0, none⟩) I.N I.N) :: (21, .int .i32 I.N) :: LA I) ⟨rfl, rfl, rfl, rfl, rfl, rfl, rfl, rfl, rfl, rfl, rfl, rfl, rfl, rfl, rfl, rfl, rfl, rfl, rfl, rfl, rfl, rfl, trivial⟩
      refine wp_seq ?_
      refine wp_region_lit ?_
      refine kl hK 219 rfl (by decide) rfl (fun ρ hρ => r_mv _ rfl (hρ _ _ rfl)) ?_
      clear hK a; intro a hK
      refine kl hK 220 rfl (by decide) rfl (fun ρ hρ => r_mv _ rfl (hρ _ _ rfl)) ?_
      clear hK a; intro a hK
      refine kl hK 221 rfl (by decide) rfl (fun ρ hρ => r_ix42z _ _ rfl hrl (hρ _ _ rfl) (hρ _ _ rfl)) ?_
      clear hK a; intro a hK
      refine kst hK rfl rfl (fun ρ hρ => r_sto4 _ _ rfl (hρ _ _ rfl) (hρ _ _ rfl) (hE1.tk.cell hrl) (hE1.tk.frozen _)) ?_
      refine wpList_nil ?_
      show Code.wp Yba.prog _ _ _ _
      have hxo : ∀ o, (w1.setCell ⟨tB, I.rp i, none⟩ (.bool true)).cell? ⟨xB, o, none⟩ = w1.cell? ⟨xB, o, none⟩ := fun o => World.cell?_of_block (a := ⟨xB, o, none⟩) (Go.Deep.blk_setCell_other _ _ _ _ hxne)
      have m1 := (hxo 1).trans n1
      have m2 := (hxo 2).trans n2
      have m3 := (hxo 3).trans n3
      have hbel := hE1.bel.setCell (p := ⟨tB, I.rp i, none⟩) htB (.bool true)
      have hrow := hE1.tk.set (I.rp i) (.bool true)
      have hown : (w1.setCell ⟨tB, I.rp i, none⟩ (.bool true)).ownsRow wR.heap.size 46 4 rV (I.rsK i).length (riseL (I.rsK i)) := own_block hE1.own fun b hb => Go.Deep.blk_setCell_other _ _ _ _ fun e => own_ne hE1.own hE1.tk (by decide) (by rw [hb]; exact congrArg some e)
      have hlen := (rsK_wf I i).len
      clear hE1 hxo n0 n1 n2 n3
      generalize (w1.setCell ⟨tB, I.rp i, none⟩ (.bool true)) = w2 at *
      refine wp_region_lit ?_
      refine kl hK 222 rfl (by decide) rfl (fun ρ hρ => r_mv _ rfl (hρ _ _ rfl)) ?_
      clear hK a; intro a hK
      refine kl hK 223 rfl (by decide) rfl (fun ρ hρ => r_mv _ rfl (hρ _ _ rfl)) ?_
      clear hK a; intro a hK
      refine kl hK 224 rfl (by decide) rfl (fun ρ hρ => r_fo44_1 _ rfl (hρ _ _ rfl)) ?_
      clear hK a; intro a hK
      refine kl hK 225 rfl (by decide) rfl (fun ρ hρ => r_ld21 _ rfl (hρ _ _ rfl) m1) ?_
      clear hK a; intro a hK
      refine kl hK 226 rfl (by decide) rfl (fun ρ hρ => r_fo44_2 _ rfl (hρ _ _ rfl)) ?_
      clear hK a; intro a hK
      refine kl hK 227 rfl (by decide) rfl (fun ρ hρ => r_ld21 _ rfl (hρ _ _ rfl) m2) ?_
      clear hK a; intro a hK
      refine kl hK 228 rfl (by decide) rfl (fun ρ hρ => r_fo44_3 _ rfl (hρ _ _ rfl)) ?_
      clear hK a; intro a hK
      refine kl hK 229 rfl (by decide) rfl (fun ρ hρ => r_ld4 _ rfl (hρ _ _ rfl) m3) ?_
      clear hK a; intro a hK
      refine kl hK 230 rfl (by decide) rfl (fun ρ hρ => r_b46_0123 _ _ _ _ rfl (hρ _ _ rfl) (hρ _ _ rfl) (hρ _ _ rfl) (hρ _ _ rfl)) ?_
      clear hK a; intro a hK
      refine kl hK 231 rfl (by decide) rfl (fun ρ hρ => r_bsl41 _ rfl (hρ _ _ rfl)) ?_
      clear hK a; intro a hK
      have hbA := bel_alloc (Below.refl w2.heap.size w2) (.cells #[.int .i32 (I.rp i), .int .i32 (I.rO i), .int .i32 (I.rC i), .bool (I.rB i)] 46)
      have hownA := own_block hown fun b hb => hbA.block b (hown.lt b hb).2
      have hnew : ∀ j u, ([.int .i32 (I.rp i), .int .i32 (I.rO i), .int .i32 (I.rC i), .bool (I.rB i)] : List Value)[j]? = some u → (w2.alloc (.cells #[.int .i32 (I.rp i), .int .i32 (I.rO i), .int .i32 (I.rC i), .bool (I.rB i)] 46)).cell? ((⟨w2.heap.size, 0, none⟩ : Addr).add j) = some u := fun j u hu => by
        have hadd : (⟨w2.heap.size, 0, none⟩ : Addr).add j = ⟨w2.heap.size, j, none⟩ := by unfold Addr.add; split <;> simp_all
        rw [hadd]
        refine cell_new w2 _ 46 ?_
        simpa using hu
      refine kapp hK 232 222 231 41 rfl (by decide) rfl rfl wR.heap.size Yba.underlying41 info46' rfl (by decide) (by decide) rfl rfl hownA (news := [.int .i32 (I.rp i), .int .i32 (I.rO i), .int .i32 (I.rC i), .bool (I.rB i)]) rfl hnew (by simp [Value.oneCell']) (by decide) (by omega) (Nat.le_trans hbel.size hbA.size) ?_
      intro g cap w4 hownN hgr hat hgl
      clear hK a; intro a hK
      refine kl hK 33 rfl (by decide) rfl (fun ρ hρ => r_as _ rfl (hρ _ _ rfl)) ?_
      clear hK a; intro a hK
      refine wpList_nil ?_
      have hE4 : RI I wR tB (.slice (some ⟨g, 0, none⟩) ((I.rsK i).length + 1) cap) (i + 1) w4 := by
        have hbA' := bel_alloc hbel (.cells #[.int .i32 (I.rp i), .int .i32 (I.rO i), .int .i32 (I.rC i), .bool (I.rB i)] 46)
        have e1 : I.rsK (i + 1) = I.rsK i ++ [⟨I.rp i, I.rO i, I.rC i, I.rB i⟩] := by show (if _ then _ else _) = _; rw [if_pos htk]
        have hrow1 := hrow.of_block (hbA.block _ hrow.lt)
        refine ⟨hbA'.grown hgr (Nat.le_trans hbel.size hbA.size) fun k hk => (hownA.lt k hk).1, ?_, ?_, fun _ => by rw [e1, List.length_append]; simp⟩
        · refine rowf (hrow1.of_block (hgr.block tB hrow1.lt fun e => own_ne hownA hrow1 (by decide) e.symm)) fun q hq => ?_
          show (if q = I.rp i then (.bool true : Value) else .bool (decide (ix (I.rsK i) q ≠ 0))) = .bool (decide (ix (I.rsK (i + 1)) q ≠ 0))
          rw [e1, ix_app]
          by_cases e : q = I.rp i
          · rw [if_pos e, e, if_neg (by omega), if_pos rfl]
            rfl
          · rw [if_neg e]
            by_cases h0 : ix (I.rsK i) q ≠ 0
            · rw [if_pos h0]
            · rw [if_neg h0, if_neg (fun h => e h.symm)]
              exact congrArg Value.bool ((decide_eq_false h0).trans (decide_eq_false (by omega)).symm)
        · rw [e1, riseL_app, List.length_append]
          exact hownN
      show Code.wp Yba.prog _ _ _ _
      refine wp_region_lit ?_
      refine kl hK 233 rfl (by decide) rfl (fun ρ hρ => r_inc3 _ rfl (by omega) (hρ _ _ rfl) (hρ _ _ rfl)) ?_
      clear hK a; intro a hK
      refine kl hK 204 rfl (by decide) rfl (fun ρ hρ => r_mv _ rfl (hρ _ _ rfl)) ?_
      clear hK a; intro a hK
      refine wpList_nil ?_
      exact hR (I.lr - (i + 1)) _ _ (by omega) ⟨i + 1, _, hil, rfl, hK.sub ⟨rfl, rfl, rfl, rfl, rfl, rfl, rfl, rfl, rfl, rfl, rfl, rfl, rfl, rfl, rfl, rfl, rfl, rfl, rfl, rfl, trivial⟩, hE4⟩
    · skip
      refine wp_cond_true (by rw [hK.rho (.tmp 218) _ rfl]; exact congrArg Value.bool (decide_eq_true (by omega))) ?_
      refine wp_exit ?_
      show Code.wp Yba.prog _ _ _ _
      refine wp_region_lit ?_
      refine kl hK 233 rfl (by decide) rfl (fun ρ hρ => r_inc3 _ rfl (by omega) (hρ _ _ rfl) (hρ _ _ rfl)) ?_
      clear hK a; intro a hK
      refine kl hK 204 rfl (by decide) rfl (fun ρ hρ => r_mv _ rfl (hρ _ _ rfl)) ?_
      clear hK a; intro a hK
      refine wpList_nil ?_
      have hE4 : RI I wR tB rV (i + 1) w1 := by
        have e1 : I.rsK (i + 1) = I.rsK i := by show (if _ then _ else _) = _; rw [if_neg htk]
        exact ⟨hE1.bel, by rw [e1]; exact hE1.tk, by rw [e1]; exact hE1.own, by rw [e1]; exact hE1.ne⟩
      exact hR (I.lr - (i + 1)) _ _ (by omega) ⟨i + 1, _, hil, rfl, hK.sub ⟨rfl, rfl, rfl, rfl, rfl, rfl, rfl, rfl, rfl, rfl, rfl, rfl, rfl, rfl, rfl, rfl, rfl, rfl, rfl, rfl, trivial⟩, hE4⟩
  · have hie : i = I.lr := by omega
    refine wp_cond_false (by rw [hK.rho (.tmp 205) _ rfl]; exact congrArg Value.bool (decide_eq_false (by omega))) ?_
    refine wp_exit ?_
    subst hie
    exact hKK _ _ rV (hK.sub ⟨rfl, rfl, rfl, rfl, rfl, rfl, rfl, rfl, rfl, rfl, rfl, rfl, rfl, rfl, rfl, rfl, trivial⟩) hE
end Go.Proofs.Ybulkexuo
