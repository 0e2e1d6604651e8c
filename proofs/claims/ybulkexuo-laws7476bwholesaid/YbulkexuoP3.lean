import Derived.Test.YbulkexuoP2
namespace Go.Proofs.Ybulkexuo
open Go.RowKit
set_option linter.unusedSimpArgs false
set_option linter.unusedVariables false


set_option maxRecDepth 100000 in
set_option maxHeartbeats 1000000 in
theorem lp2 (I : IN) (hF : I.Fine) (hll : I.ll ≤ 4096) (HB : Nat) (wS : World) (hI : I.At wS) (Q : Exit → Act → World → Prop) (K : Act → World → Prop) (hKK : ∀ a w eV lV, Kn 706 ((26, lV) :: (25, eV) :: (22, .slice (some ⟨HB, 0, none⟩) I.N I.N) :: (21, .int .i32 I.N) :: LA I) a → EL2 I.D wS w eV lV (I.D.ent I.ll) I.ll → K a w) (a : Act) (w : World) (eV lV : Value) (hK : Kn 706 ((151, .int .i64 (0 : Nat)) :: (150, .int .i64 I.ll) :: (149, .slice I.lA I.ll I.lc) :: (26, lV) :: (25, eV) :: (22, .slice (some ⟨HB, 0, none⟩) I.N I.N) :: (21, .int .i32 I.N) :: LA I) a) (hE : EL2 I.D wS w eV lV [] 0) :
    Code.wp Yba.prog (nav [1, 1, 1, 1, 1, 1, 1, 1, 0, 1] (Yba.f3.body.getD .skip)) (Exit.then K Q) a w := by
  have hN := I.N_le
  refine loop_n K (fun n a w => ∃ l eV lV, l ≤ I.ll ∧ n = I.ll - l ∧ Kn 706 ((151, .int .i64 (l : Nat)) :: (150, .int .i64 I.ll) :: (149, .slice I.lA I.ll I.lc) :: (26, lV) :: (25, eV) :: (22, .slice (some ⟨HB, 0, none⟩) I.N I.N) :: (21, .int .i32 I.N) :: LA I) a ∧ EL2 I.D wS w eV lV (I.D.ent l) l) ⟨0, eV, lV, Nat.zero_le _, rfl, hK, hE⟩ ?_
  clear hK hE a w eV lV
  rintro n a w R ⟨l, eV, lV, hl, hn, hK, hE⟩ hR
  refine wp_seq ?_
  refine wp_region_lit ?_
  refine kl hK 152 rfl (by decide) rfl (fun ρ hρ => r_lss3 _ _ rfl (hρ _ _ rfl) (hρ _ _ rfl)) ?_
  clear hK a; intro a hK
  refine wpList_nil ?_
  show Code.wp Yba.prog _ _ _ _
  refine wp_seq ?_
  by_cases hll2 : l < I.ll
  · obtain ⟨⟨b, off, ha, hlt, k0, k1⟩, -⟩ := (hI.below hE.bel).lv l hll2
    have heo : I.D.eo l ≤ l * 20 := eo_bound hN l
    have heo1 : I.D.eo (l + 1) ≤ (l + 1) * 20 := eo_bound hN (l + 1)
    obtain ⟨ea, ec, hev⟩ : ∃ ea ec, eV = .slice ea (I.D.ent l).length ec := by
      rcases own_slice hE.ent with ⟨h1, h2⟩ | ⟨g, cap, h2, -, -⟩
      · exact ⟨none, 0, by rw [h2]; exact h1⟩
      · exact ⟨_, _, h2⟩
    refine wp_cond_true (by rw [hK.rho (.tmp 152) _ rfl]; exact congrArg Value.bool (decide_eq_true (by omega))) ?_
    refine wp_skip ?_
    show Code.wp Yba.prog _ _ _ _
    have k0 : w.cell? ⟨b, off + l * 2, none⟩ = some (.int .u32 (I.mask l)) := k0
    have k1 : w.cell? ⟨b, off + l * 2 + 1, none⟩ = some (.slice (I.A l) (I.nc l) (I.cc l)) := k1
    refine wp_seq ?_
    refine wp_block ?_
    refine wp_seq ?_
    refine wp_region_lit ?_
    refine kl hK 153 rfl (by decide) rfl (fun ρ hρ => r_ix23p _ _ rfl ha hll2 (hρ _ _ rfl) (hρ _ _ rfl)) ?_
    clear hK a; intro a hK
    refine kl hK 154 rfl (by decide) rfl (fun ρ hρ => r_ld35 _ rfl (hρ _ _ rfl) k0 k1) ?_
    clear hK a; intro a hK
    refine kl hK 28 rfl (by decide) rfl (fun ρ hρ => r_al35 rfl) ?_
    clear hK a; intro a hK
    refine kst hK rfl rfl (fun ρ hρ => r_st35 (w := w) _ _ rfl (hρ _ _ rfl) (hρ _ _ rfl)) ?_
    refine wpList_nil ?_
    show Code.wp Yba.prog _ _ _ _
    have hx : (w.alloc (.cells #[.int .u32 (I.mask l), .slice (I.A l) (I.nc l) (I.cc l)] 35)).rowIs w.heap.size 35 2 (fun j => if j = 0 then .int .u32 (I.mask l) else .slice (I.A l) (I.nc l) (I.cc l)) := World.rowIs_alloc w _ 35 _ fun i hi => by
      match i, hi with
      | 0, _ => rfl
      | 1, _ => rfl
    have hE1 := hE.below (bel_alloc (Below.refl w.heap.size w) (.cells #[.int .u32 (I.mask l), .slice (I.A l) (I.nc l) (I.cc l)] 35))
    have hxS := hE.bel.size
    generalize w.alloc (.cells #[.int .u32 (I.mask l), .slice (I.A l) (I.nc l) (I.cc l)] 35) = w1 at *
    generalize w.heap.size = xB at *
    rw [hev] at hK
    refine wp_seq ?_
    refine wp_region_lit ?_
    refine kl hK 155 rfl (by decide) rfl (fun ρ hρ => r_mv _ rfl (hρ _ _ rfl)) ?_
    clear hK a; intro a hK
    refine kl hK 156 rfl (by decide) rfl (fun ρ hρ => r_len31 _ rfl (hρ _ _ rfl)) ?_
    clear hK a; intro a hK
    refine kl hK 157 rfl (by decide) rfl (fun ρ hρ => r_cn3_21 _ rfl (by have : (I.D.ent l).length = I.D.eo l := rfl; omega) (hρ _ _ rfl)) ?_
    clear hK a; intro a hK
    refine kl hK 29 rfl (by decide) rfl (fun ρ hρ => r_as _ rfl (hρ _ _ rfl)) ?_
    clear hK a; intro a hK
    refine wpList_nil ?_
    show Code.wp Yba.prog _ _ _ _
    refine wp_seq ?_
    refine wp_region_lit ?_
    refine kl hK 30 rfl (by decide) rfl (fun ρ hρ => r_as _ rfl (hρ _ _ rfl)) ?_
    clear hK a; intro a hK
    refine wpList_nil ?_
    show Code.wp Yba.prog _ _ _ _
    refine wp_seq ?_
    refine wp_seq ?_
    refine wp_region_lit ?_
    refine kl hK 31 rfl (by decide) rfl (fun ρ hρ => r_as _ rfl (hρ _ _ rfl)) ?_
    clear hK a; intro a hK
    refine wpList_nil ?_
    show Code.wp Yba.prog _ _ _ _
    rw [← hev] at hK
    refine lp4 I hF hll HB wS hI l hll2 xB hxS lV _ _ ?_ a w1 eV (hK.sub ⟨rfl, rfl, rfl, rfl, rfl, rfl, rfl, rfl, rfl, rfl, rfl, rfl, rfl, rfl, rfl, rfl, rfl, rfl, rfl, rfl, rfl, trivial⟩) hx hE1
    clear hK a hx hE1 hE hev eV ec ea
    intro a w2 eV hK hE2
    show Code.wp Yba.prog _ _ _ _
    have hev2 : ∃ ea ec, eV = .slice ea (I.D.ent l ++ I.D.EL l).length ec := by
      rcases own_slice hE2.ent with ⟨h1, h2⟩ | ⟨g, cap, h2, -, -⟩
      · exact ⟨none, 0, by rw [h2]; exact h1⟩
      · exact ⟨_, _, h2⟩
    obtain ⟨ea, ec, hev⟩ := hev2
    rw [hev] at hK
    have hle : (I.D.ent l ++ I.D.EL l).length = I.D.eo (l + 1) := rfl
    rw [hle] at hK
    refine wp_region_lit ?_
    refine kl hK 191 rfl (by decide) rfl (fun ρ hρ => r_mv _ rfl (hρ _ _ rfl)) ?_
    clear hK a; intro a hK
    refine kl hK 192 rfl (by decide) rfl (fun ρ hρ => r_mv _ rfl (hρ _ _ rfl)) ?_
    clear hK a; intro a hK
    refine kl hK 193 rfl (by decide) rfl (fun ρ hρ => r_mv _ rfl (hρ _ _ rfl)) ?_
    clear hK a; intro a hK
    refine kl hK 194 rfl (by decide) rfl (fun ρ hρ => r_len31 _ rfl (hρ _ _ rfl)) ?_
    clear hK a; intro a hK
    refine kl hK 195 rfl (by decide) rfl (fun ρ hρ => r_cn3_21 _ rfl (by omega) (hρ _ _ rfl)) ?_
    clear hK a; intro a hK
    refine kl hK 196 rfl (by decide) rfl (fun ρ hρ => r_b40_01 _ _ rfl (hρ _ _ rfl) (hρ _ _ rfl)) ?_
    clear hK a; intro a hK
    refine kl hK 197 rfl (by decide) rfl (fun ρ hρ => r_bsl32 _ rfl (hρ _ _ rfl)) ?_
    clear hK a; intro a hK
    have hE3 := hE2.below (bel_alloc (Below.refl w2.heap.size w2) (.cells #[.int .i32 (I.D.eo l), .int .i32 (I.D.eo (l + 1))] 40))
    have hnew : ∀ j u, [Value.int .i32 (I.D.eo l), .int .i32 (I.D.eo (l + 1))][j]? = some u → (w2.alloc (.cells #[.int .i32 (I.D.eo l), .int .i32 (I.D.eo (l + 1))] 40)).cell? ((⟨w2.heap.size, 0, none⟩ : Addr).add j) = some u := fun j u hu => by
      have hadd : (⟨w2.heap.size, 0, none⟩ : Addr).add j = ⟨w2.heap.size, j, none⟩ := by unfold Addr.add; split <;> simp_all
      rw [hadd]
      refine cell_new w2 _ 40 ?_
      simpa using hu
    refine kapp hK 198 191 197 32 rfl (by decide) rfl rfl wS.heap.size Yba.underlying32 info40' rfl (by decide) (by decide) rfl rfl hE3.lev (news := [.int .i32 (I.D.eo l), .int .i32 (I.D.eo (l + 1))]) rfl hnew (by simp [Value.oneCell']) (by decide) (by omega) (by have := hE3.bel.size; omega) ?_
    intro g cap w4 hown hgr hat hgl
    clear hK a; intro a hK
    refine kl hK 26 rfl (by decide) rfl (fun ρ hρ => r_as _ rfl (hρ _ _ rfl)) ?_
    clear hK a; intro a hK
    refine wpList_nil ?_
    have hE4 : EL2 I.D wS w4 eV (.slice (some ⟨g, 0, none⟩) (l + 1) cap) (I.D.ent (l + 1)) (l + 1) := by
      refine ⟨hE3.bel.grown hgr (by have := hE3.bel.size; omega) fun k hk => (hE3.lev.lt k hk).1, hE3.ent.kept hgr ?_, ?_, hE3.ene, fun _ => by omega⟩
      · rcases own_apart hE3.ent hE3.lev (by decide) with h | h
        · exact .inl h
        · exact .inr h
      · rw [levL_succ]; exact hown
    show Code.wp Yba.prog _ _ _ _
    refine wp_region_lit ?_
    refine kl hK 199 rfl (by decide) rfl (fun ρ hρ => r_inc3 _ rfl (by omega) (hρ _ _ rfl) (hρ _ _ rfl)) ?_
    clear hK a; intro a hK
    refine kl hK 151 rfl (by decide) rfl (fun ρ hρ => r_mv _ rfl (hρ _ _ rfl)) ?_
    clear hK a; intro a hK
    refine wpList_nil ?_
    exact hR (I.ll - (l + 1)) _ _ (by omega) ⟨l + 1, eV, _, hll2, rfl, hK.sub ⟨rfl, rfl, rfl, rfl, by rw [hev]; rfl, rfl, rfl, rfl, rfl, rfl, rfl, rfl, rfl, rfl, rfl, rfl, rfl, trivial⟩, hE4⟩
  · have hle : l = I.ll := by omega
    refine wp_cond_false (by rw [hK.rho (.tmp 152) _ rfl]; exact congrArg Value.bool (decide_eq_false (by omega))) ?_
    refine wp_exit ?_
    subst hle
    exact hKK _ _ eV lV (hK.sub ⟨rfl, rfl, rfl, rfl, rfl, rfl, rfl, rfl, rfl, rfl, rfl, rfl, rfl, rfl, trivial⟩) hE

/-- the law's post -/
def Post (w0 : World) (e : Ending) (w' : World) : Prop := e = .returned (.bool true) ∧ Below w0.heap.size w0 w'
theorem kretL {w0 w : World} {a : Act} {L : List (Nat × Value)} (hK : Kn 706 L a) (h : lk L 20 = some (.bool true)) (hb : Below w0.heap.size w0 w) : bodyPost Yba.prog Yba.f3 (Post w0) .ret a w := kret1 (s := 20) hK rfl h ⟨rfl, hb⟩
theorem r_make27 {ρ : Operand → Value} {o : Oper} {w : World} (x y : Operand) (ho : o.op = .makeSlice 25 x y) {k : IntKind} {n : Nat} (hn : n ≤ 4096) (h : ρ x = .int k n) (h' : ρ y = .int k n) : (execOp ρ o).run Yba.prog w = .ok (.value (.slice (some ⟨w.heap.size, 0, none⟩) n n)) (w.alloc (.cells (madeCells #[.int .i32 0, .int .i32 0, .int .i32 0, .int .i32 0] (n * 4)) 27)) := by
  obtain ⟨i, hi, hzz⟩ := Option.map_eq_some_iff.1 info27'
  simp only [Prod.mk.injEq] at hzz
  obtain ⟨h1, h2, h3⟩ := hzz
  have hb' : (i.bytes : Int) * (n : Int) ≤ 281474976710656 := by
    have : i.bytes * n ≤ 16 * 4096 := Nat.mul_le_mul (by omega) hn
    have h : ((i.bytes * n : Nat) : Int) ≤ 281474976710656 := by omega
    rwa [Int.natCast_mul] at h
  have hr := run_make (P := Yba.prog) w 25 27 i _ Yba.underlying25 hi h1 k k n n (by omega) (Int.le_refl _) hb' (by omega)
  simp only [Int.toNat_natCast, h2, Value.cells] at hr
  unfold execOp; rw [ho]; simp only; go_simp

section
variable {ρ : Operand → Value} {o : Oper} {w : World}
theorem r_add3 (p q : Operand) (ho : o.op = .binOp .add 3 p q 3) {x y z : Int} (hw : IntKind.i64.wrap (x + y) = z) (h : ρ p = .int .i64 x) (h' : ρ q = .int .i64 y) : (execOp ρ o).run Yba.prog w = .ok (.value (.int .i64 z)) w := by
  have u3 := Yba.underlying3
  unfold execOp; rw [ho]; simp only; go_simp
end

set_option maxRecDepth 100000 in
set_option maxHeartbeats 1000000 in
theorem y2 (I : IN) (w0 : World) (hI : I.At w0) (hF : I.Fine) (hll : I.ll ≤ 4096) (hnext : ∀ a w wS HB eV lV, Kn 706 ((26, lV) :: (25, eV) :: (22, .slice (some ⟨HB, 0, none⟩) I.N I.N) :: (21, .int .i32 I.N) :: LA I) a → Below w0.heap.size w0 wS → w0.heap.size ≤ HB → HRow I.D wS HB I.N → HB < wS.heap.size → EL2 I.D wS w eV lV (I.D.ent I.ll) I.ll → Code.wp Yba.prog (nav [1, 1, 1, 1, 1, 1, 1, 1, 1] (Yba.f3.body.getD .skip)) (bodyPost Yba.prog Yba.f3 (Post w0)) a w) (a : Act) (hK : Kn 706 (LA I) a) :
    Code.wp Yba.prog (nav [1, 1] (Yba.f3.body.getD .skip)) (bodyPost Yba.prog Yba.f3 (Post w0)) a w0 := by
  have hN := I.N_le
  have hN1 := I.N_pos
  have hn0 := hF.n0
  conv => arg 2; whnf
  refine wp_seq ?_
  refine wp_region_lit ?_
  refine kl hK 93 rfl (by decide) rfl (fun ρ hρ => r_mv _ rfl (hρ _ _ rfl)) ?_
  clear hK a; intro a hK
  refine kl hK 94 rfl (by decide) rfl (fun ρ hρ => r_cn5_3 _ rfl (by omega) (hρ _ _ rfl)) ?_
  clear hK a; intro a hK
  refine kl hK 95 rfl (by decide) rfl (fun ρ hρ => r_rem3_20 _ rfl (hρ _ _ rfl) (hρ _ _ rfl)) ?_
  clear hK a; intro a hK
  refine kl hK 96 rfl (by decide) rfl (fun ρ hρ => r_add3 (z := (I.N : Nat)) _ _ rfl (by have := Nat.mod_lt I.n0 (show 0 < 20 by omega); rw [IntKind.wrap_i64]; unfold IN.N; omega) (hρ _ _ rfl) (hρ _ _ rfl)) ?_
  clear hK a; intro a hK
  refine kl hK 97 rfl (by decide) rfl (fun ρ hρ => r_cn3_21 _ rfl (by omega) (hρ _ _ rfl)) ?_
  clear hK a; intro a hK
  refine kl hK 21 rfl (by decide) rfl (fun ρ hρ => r_as _ rfl (hρ _ _ rfl)) ?_
  clear hK a; intro a hK
  refine wpList_nil ?_
  show Code.wp Yba.prog _ _ _ _
  refine wp_seq ?_
  refine wp_region_lit ?_
  refine kl hK 98 rfl (by decide) rfl (fun ρ hρ => r_mv _ rfl (hρ _ _ rfl)) ?_
  clear hK a; intro a hK
  refine kl hK 99 rfl (by decide) rfl (fun ρ hρ => r_make27 _ _ rfl (by omega) (hρ _ _ rfl) (hρ _ _ rfl)) ?_
  clear hK a; intro a hK
  refine kl hK 22 rfl (by decide) rfl (fun ρ hρ => r_as _ rfl (hρ _ _ rfl)) ?_
  clear hK a; intro a hK
  refine wpList_nil ?_
  show Code.wp Yba.prog _ _ _ _
  have hb1 := bel_alloc (Below.refl w0.heap.size w0) (.cells (madeCells #[.int .i32 0, .int .i32 0, .int .i32 0, .int .i32 0] (I.N * 4)) 27)
  have hr1 : HRow I.D (w0.alloc (.cells (madeCells #[.int .i32 0, .int .i32 0, .int .i32 0, .int .i32 0] (I.N * 4)) 27)) w0.heap.size 0 := by
    have h1 := World.rowIs_alloc w0 (madeCells #[.int .i32 0, .int .i32 0, .int .i32 0, .int .i32 0] (I.N * 4)) 27 (fun i => ((madeCells #[.int .i32 0, .int .i32 0, .int .i32 0, .int .i32 0] (I.N * 4))[i]?).getD undef) (fun i hi => by rw [Array.getElem?_eq_getElem hi]; rfl)
    rw [size_madeCells] at h1
    exact ⟨_, h1, fun p hp => absurd hp (Nat.not_lt_zero p)⟩
  generalize (w0.alloc (.cells (madeCells #[.int .i32 0, .int .i32 0, .int .i32 0, .int .i32 0] (I.N * 4)) 27)) = w1 at *
  obtain ⟨f1, hrow1, -⟩ := id hr1
  have hN4 : 0 + 3 < I.D.N * 4 := by show 0 + 3 < I.N * 4; omega
  replace hK := hK.sub (M := (22, .slice (some ⟨w0.heap.size, 0, none⟩) I.N I.N) :: (21, .int .i32 I.N) :: LA I) ⟨rfl, rfl, rfl, rfl, rfl, rfl, rfl, rfl, rfl, rfl, rfl, rfl, trivial⟩
  refine wp_seq ?_
  refine wp_region_lit ?_
  refine kl hK 100 rfl (by decide) rfl (fun ρ hρ => r_mv _ rfl (hρ _ _ rfl)) ?_
  clear hK a; intro a hK
  refine kl hK 101 rfl (by decide) rfl (fun ρ hρ => r_b27_3c rfl (hρ _ _ rfl)) ?_
  clear hK a; intro a hK
  refine kl hK 102 rfl (by decide) rfl (fun ρ hρ => r_ix25z (i := 0) _ _ rfl hN1 (hρ _ _ rfl) (hρ _ _ rfl)) ?_
  clear hK a; intro a hK
  refine kst hK rfl rfl (fun ρ hρ => r_so27 _ _ rfl hrow1 hN4 (hρ _ _ rfl) (hρ _ _ rfl)) ?_
  refine wpList_nil ?_
  show Code.wp Yba.prog _ _ _ _
  have hb2 := set4o_below hb1 (Nat.le_refl _) (b := w0.heap.size) (o := 0 * 4) (.int .i32 0) (.int .i32 0) (.int .i32 0) (.int .i32 (-1))
  have hr2 := hr1.next
  have hc0 : ¬ I.cond 0 := fun h => absurd h.1 (by omega)
  have e0 : I.D.hcell 0 0 = .int .i32 0 := by show Value.int .i32 ((if I.cond 0 then u32 (I.hTo (0 - 1)) % 0 else 0 : Nat) : Int) = _; rw [if_neg hc0]; rfl
  have e1 : I.D.hcell 0 1 = .int .i32 0 := by show Value.int .i32 (if I.cond 0 then I.hPos (0 - 1) else 0) = _; rw [if_neg hc0]
  have e2 : I.D.hcell 0 2 = .int .i32 0 := by show Value.int .i32 (if I.cond 0 then I.hCnt (0 - 1) else 0) = _; rw [if_neg hc0]
  have e3 : I.D.hcell 0 3 = .int .i32 (-1) := by show Value.int .i32 (if I.cond 0 then I.hAt (0 - 1) else -1) = _; rw [if_neg hc0]
  rw [e0, e1, e2, e3] at hr2
  refine wp_seq ?_
  refine wp_seq ?_
  refine wp_region_lit ?_
  refine kl hK 23 rfl (by decide) rfl (fun ρ hρ => r_as _ rfl (hρ _ _ rfl)) ?_
  clear hK a; intro a hK
  refine wpList_nil ?_
  show Code.wp Yba.prog _ _ _ _
  refine lp0 I w0 hI hF w0.heap.size (Nat.le_refl _) _ _ ?_ a _ (hK.sub ⟨rfl, rfl, rfl, rfl, rfl, rfl, rfl, rfl, rfl, rfl, rfl, rfl, rfl, trivial⟩) hb2 hr2
  clear hK a
  intro a wS hK hbS hrS
  show Code.wp Yba.prog _ _ _ _
  refine wp_seq ?_
  refine wp_region_lit ?_
  refine kl hK 25 rfl (by decide) rfl (fun ρ hρ => r_as _ rfl (hρ _ _ rfl)) ?_
  clear hK a; intro a hK
  refine wpList_nil ?_
  show Code.wp Yba.prog _ _ _ _
  refine wp_seq ?_
  refine wp_region_lit ?_
  refine kl hK 26 rfl (by decide) rfl (fun ρ hρ => r_as _ rfl (hρ _ _ rfl)) ?_
  clear hK a; intro a hK
  refine wpList_nil ?_
  show Code.wp Yba.prog _ _ _ _
  refine wp_seq ?_
  refine wp_seq ?_
  refine wp_region_lit ?_
  refine kl hK 149 rfl (by decide) rfl (fun ρ hρ => r_mv _ rfl (hρ _ _ rfl)) ?_
  clear hK a; intro a hK
  refine kl hK 150 rfl (by decide) rfl (fun ρ hρ => r_len23 _ rfl (hρ _ _ rfl)) ?_
  clear hK a; intro a hK
  refine kl hK 151 rfl (by decide) rfl (fun ρ hρ => r_mv _ rfl (hρ _ _ rfl)) ?_
  clear hK a; intro a hK
  refine wpList_nil ?_
  show Code.wp Yba.prog _ _ _ _
  have hHlt : w0.heap.size < wS.heap.size := by obtain ⟨f, h1, -⟩ := hrS; exact h1.lt
  refine lp2 I hF hll w0.heap.size wS (hI.below hbS) _ _ ?_ a wS (.slice none 0 0) (.slice none 0 0) (hK.sub ⟨rfl, rfl, rfl, rfl, rfl, rfl, rfl, rfl, rfl, rfl, rfl, rfl, rfl, rfl, rfl, rfl, rfl, trivial⟩) ⟨Below.refl _ _, World.ownsRow_nil _ _ _ _, World.ownsRow_nil _ _ _ _, fun h => absurd rfl h, fun h => absurd rfl h⟩
  clear hK a
  intro a w eV lV hK hE
  exact hnext a w wS w0.heap.size eV lV hK hbS (Nat.le_refl _) hrS hHlt hE

set_option maxRecDepth 100000 in
set_option maxHeartbeats 1000000 in
theorem y0 (I : IN) (w0 : World) (hnext : ∀ a, Kn 706 (LA I) a → I.lh ≤ 65536 → I.ll ≤ 4096 → I.lr ≤ 65536 → Code.wp Yba.prog (nav [1, 1] (Yba.f3.body.getD .skip)) (bodyPost Yba.prog Yba.f3 (Post w0)) a w0) (a : Act) (hK : Kn 706 (LA I) a) :
    Code.wp Yba.prog (Yba.f3.body.getD .skip) (bodyPost Yba.prog Yba.f3 (Post w0)) a w0 := by
  conv => arg 2; whnf
  refine wp_seq ?_
  refine wp_region_lit ?_
  refine kl hK 20 rfl (by decide) rfl (fun ρ hρ => r_as _ rfl (hρ _ _ rfl)) ?_
  clear hK a; intro a hK
  refine wpList_nil ?_
  show Code.wp Yba.prog _ _ _ _
  refine wp_seq ?_
  refine wp_seq ?_
  replace hK := hK.sub (M := LA I) ⟨rfl, rfl, rfl, rfl, rfl, rfl, rfl, rfl, rfl, rfl, trivial⟩
  by_cases h1 : 65536 < I.lh
  · skip
    refine wp_region_lit ?_
    refine kl hK 80 rfl (by decide) rfl (fun ρ hρ => r_mv _ rfl (hρ _ _ rfl)) ?_
    clear hK a; intro a hK
    refine kl hK 81 rfl (by decide) rfl (fun ρ hρ => r_len22 _ rfl (hρ _ _ rfl)) ?_
    clear hK a; intro a hK
    refine kl hK 82 rfl (by decide) rfl (fun ρ hρ => r_gtr3 _ _ rfl (hρ _ _ rfl) (hρ _ _ rfl)) ?_
    clear hK a; intro a hK
    refine kl hK 83 rfl (by decide) rfl (fun ρ hρ => r_mv _ rfl (hρ _ _ rfl)) ?_
    clear hK a; intro a hK
    refine klu hK 84 3 83 rfl (by decide) rfl (by kernel_rfl) rfl (decide_eq_true (by omega)) ?_
    clear hK a; intro a hK
    refine klu hK 85 3 83 rfl (by decide) rfl (by kernel_rfl) rfl (decide_eq_true (by omega)) ?_
    clear hK a; intro a hK
    refine klu hK 86 3 83 rfl (by decide) rfl (by kernel_rfl) rfl (decide_eq_true (by omega)) ?_
    clear hK a; intro a hK
    refine kl hK 87 rfl (by decide) rfl (fun ρ hρ => r_pickT _ _ _ rfl (decide_eq_true (by omega)) (hρ _ _ rfl) (hρ _ _ rfl)) ?_
    clear hK a; intro a hK
    refine kl hK 88 rfl (by decide) rfl (fun ρ hρ => r_mv _ rfl (hρ _ _ rfl)) ?_
    clear hK a; intro a hK
    refine klu hK 89 8 88 rfl (by decide) rfl (by kernel_rfl) rfl rfl ?_
    clear hK a; intro a hK
    refine klu hK 90 8 88 rfl (by decide) rfl (by kernel_rfl) rfl rfl ?_
    clear hK a; intro a hK
    refine klu hK 91 8 88 rfl (by decide) rfl (by kernel_rfl) rfl rfl ?_
    clear hK a; intro a hK
    refine kl hK 92 rfl (by decide) rfl (fun ρ hρ => r_pickT _ _ _ rfl rfl (hρ _ _ rfl) (hρ _ _ rfl)) ?_
    clear hK a; intro a hK
    refine wpList_nil ?_
    show Code.wp Yba.prog _ _ _ _
    refine wp_cond_true (hK.rho (.tmp 92) _ rfl) ?_
    refine wp_seq ?_
    refine wp_region_lit ?_
    refine kl hK 20 rfl (by decide) rfl (fun ρ hρ => r_as _ rfl (hρ _ _ rfl)) ?_
    clear hK a; intro a hK
    refine wpList_nil ?_
    show Code.wp Yba.prog _ _ _ _
    refine wp_ret ?_
    try simp only [Exit.inBlock, Exit.then]
    exact kretL hK rfl (Below.refl _ _)
  · by_cases h2 : 4096 < I.ll
    · skip
      refine wp_region_lit ?_
      refine kl hK 80 rfl (by decide) rfl (fun ρ hρ => r_mv _ rfl (hρ _ _ rfl)) ?_
      clear hK a; intro a hK
      refine kl hK 81 rfl (by decide) rfl (fun ρ hρ => r_len22 _ rfl (hρ _ _ rfl)) ?_
      clear hK a; intro a hK
      refine kl hK 82 rfl (by decide) rfl (fun ρ hρ => r_gtr3 _ _ rfl (hρ _ _ rfl) (hρ _ _ rfl)) ?_
      clear hK a; intro a hK
      refine kl hK 83 rfl (by decide) rfl (fun ρ hρ => r_mv _ rfl (hρ _ _ rfl)) ?_
      clear hK a; intro a hK
      refine klg hK 84 3 83 rfl (by decide) rfl (by kernel_rfl) rfl (decide_eq_false (by omega)) (fun ρ hρ => r_mv _ rfl (hρ _ _ rfl)) ?_
      clear hK a; intro a hK
      refine klg hK 85 3 83 rfl (by decide) rfl (by kernel_rfl) rfl (decide_eq_false (by omega)) (fun ρ hρ => r_len23 _ rfl (hρ _ _ rfl)) ?_
      clear hK a; intro a hK
      refine klg hK 86 3 83 rfl (by decide) rfl (by kernel_rfl) rfl (decide_eq_false (by omega)) (fun ρ hρ => r_gtr3 _ _ rfl (hρ _ _ rfl) (hρ _ _ rfl)) ?_
      clear hK a; intro a hK
      refine kl hK 87 rfl (by decide) rfl (fun ρ hρ => r_pickE _ _ _ rfl (decide_eq_false (by omega)) (hρ _ _ rfl) (hρ _ _ rfl)) ?_
      clear hK a; intro a hK
      refine kl hK 88 rfl (by decide) rfl (fun ρ hρ => r_mv _ rfl (hρ _ _ rfl)) ?_
      clear hK a; intro a hK
      refine klu hK 89 8 88 rfl (by decide) rfl (by kernel_rfl) rfl (decide_eq_true (by omega)) ?_
      clear hK a; intro a hK
      refine klu hK 90 8 88 rfl (by decide) rfl (by kernel_rfl) rfl (decide_eq_true (by omega)) ?_
      clear hK a; intro a hK
      refine klu hK 91 8 88 rfl (by decide) rfl (by kernel_rfl) rfl (decide_eq_true (by omega)) ?_
      clear hK a; intro a hK
      refine kl hK 92 rfl (by decide) rfl (fun ρ hρ => r_pickT _ _ _ rfl (decide_eq_true (by omega)) (hρ _ _ rfl) (hρ _ _ rfl)) ?_
      clear hK a; intro a hK
      refine wpList_nil ?_
      show Code.wp Yba.prog _ _ _ _
      refine wp_cond_true (hK.rho (.tmp 92) _ rfl) ?_
      refine wp_seq ?_
      refine wp_region_lit ?_
      refine kl hK 20 rfl (by decide) rfl (fun ρ hρ => r_as _ rfl (hρ _ _ rfl)) ?_
      clear hK a; intro a hK
      refine wpList_nil ?_
      show Code.wp Yba.prog _ _ _ _
      refine wp_ret ?_
      try simp only [Exit.inBlock, Exit.then]
      exact kretL hK rfl (Below.refl _ _)
    · by_cases h3 : 65536 < I.lr
      · skip
        refine wp_region_lit ?_
        refine kl hK 80 rfl (by decide) rfl (fun ρ hρ => r_mv _ rfl (hρ _ _ rfl)) ?_
        clear hK a; intro a hK
        refine kl hK 81 rfl (by decide) rfl (fun ρ hρ => r_len22 _ rfl (hρ _ _ rfl)) ?_
        clear hK a; intro a hK
        refine kl hK 82 rfl (by decide) rfl (fun ρ hρ => r_gtr3 _ _ rfl (hρ _ _ rfl) (hρ _ _ rfl)) ?_
        clear hK a; intro a hK
        refine kl hK 83 rfl (by decide) rfl (fun ρ hρ => r_mv _ rfl (hρ _ _ rfl)) ?_
        clear hK a; intro a hK
        refine klg hK 84 3 83 rfl (by decide) rfl (by kernel_rfl) rfl (decide_eq_false (by omega)) (fun ρ hρ => r_mv _ rfl (hρ _ _ rfl)) ?_
        clear hK a; intro a hK
        refine klg hK 85 3 83 rfl (by decide) rfl (by kernel_rfl) rfl (decide_eq_false (by omega)) (fun ρ hρ => r_len23 _ rfl (hρ _ _ rfl)) ?_
        clear hK a; intro a hK
        refine klg hK 86 3 83 rfl (by decide) rfl (by kernel_rfl) rfl (decide_eq_false (by omega)) (fun ρ hρ => r_gtr3 _ _ rfl (hρ _ _ rfl) (hρ _ _ rfl)) ?_
        clear hK a; intro a hK
        refine kl hK 87 rfl (by decide) rfl (fun ρ hρ => r_pickE _ _ _ rfl (decide_eq_false (by omega)) (hρ _ _ rfl) (hρ _ _ rfl)) ?_
        clear hK a; intro a hK
        refine kl hK 88 rfl (by decide) rfl (fun ρ hρ => r_mv _ rfl (hρ _ _ rfl)) ?_
        clear hK a; intro a hK
        refine klg hK 89 8 88 rfl (by decide) rfl (by kernel_rfl) rfl (decide_eq_false (by omega)) (fun ρ hρ => r_mv _ rfl (hρ _ _ rfl)) ?_
        clear hK a; intro a hK
        refine klg hK 90 8 88 rfl (by decide) rfl (by kernel_rfl) rfl (decide_eq_false (by omega)) (fun ρ hρ => r_len24 _ rfl (hρ _ _ rfl)) ?_
        clear hK a; intro a hK
        refine klg hK 91 8 88 rfl (by decide) rfl (by kernel_rfl) rfl (decide_eq_false (by omega)) (fun ρ hρ => r_gtr3 _ _ rfl (hρ _ _ rfl) (hρ _ _ rfl)) ?_
        clear hK a; intro a hK
        refine kl hK 92 rfl (by decide) rfl (fun ρ hρ => r_pickE _ _ _ rfl (decide_eq_false (by omega)) (hρ _ _ rfl) (hρ _ _ rfl)) ?_
        clear hK a; intro a hK
        refine wpList_nil ?_
        show Code.wp Yba.prog _ _ _ _
        refine wp_cond_true (by rw [hK.rho (.tmp 92) _ rfl]; exact congrArg Value.bool (decide_eq_true (by omega))) ?_
        refine wp_seq ?_
        refine wp_region_lit ?_
        refine kl hK 20 rfl (by decide) rfl (fun ρ hρ => r_as _ rfl (hρ _ _ rfl)) ?_
        clear hK a; intro a hK
        refine wpList_nil ?_
        show Code.wp Yba.prog _ _ _ _
        refine wp_ret ?_
        try simp only [Exit.inBlock, Exit.then]
        exact kretL hK rfl (Below.refl _ _)
      · skip
        refine wp_region_lit ?_
        refine kl hK 80 rfl (by decide) rfl (fun ρ hρ => r_mv _ rfl (hρ _ _ rfl)) ?_
        clear hK a; intro a hK
        refine kl hK 81 rfl (by decide) rfl (fun ρ hρ => r_len22 _ rfl (hρ _ _ rfl)) ?_
        clear hK a; intro a hK
        refine kl hK 82 rfl (by decide) rfl (fun ρ hρ => r_gtr3 _ _ rfl (hρ _ _ rfl) (hρ _ _ rfl)) ?_
        clear hK a; intro a hK
        refine kl hK 83 rfl (by decide) rfl (fun ρ hρ => r_mv _ rfl (hρ _ _ rfl)) ?_
        clear hK a; intro a hK
        refine klg hK 84 3 83 rfl (by decide) rfl (by kernel_rfl) rfl (decide_eq_false (by omega)) (fun ρ hρ => r_mv _ rfl (hρ _ _ rfl)) ?_
        clear hK a; intro a hK
        refine klg hK 85 3 83 rfl (by decide) rfl (by kernel_rfl) rfl (decide_eq_false (by omega)) (fun ρ hρ => r_len23 _ rfl (hρ _ _ rfl)) ?_
        clear hK a; intro a hK
        refine klg hK 86 3 83 rfl (by decide) rfl (by kernel_rfl) rfl (decide_eq_false (by omega)) (fun ρ hρ => r_gtr3 _ _ rfl (hρ _ _ rfl) (hρ _ _ rfl)) ?_
        clear hK a; intro a hK
        refine kl hK 87 rfl (by decide) rfl (fun ρ hρ => r_pickE _ _ _ rfl (decide_eq_false (by omega)) (hρ _ _ rfl) (hρ _ _ rfl)) ?_
        clear hK a; intro a hK
        refine kl hK 88 rfl (by decide) rfl (fun ρ hρ => r_mv _ rfl (hρ _ _ rfl)) ?_
        clear hK a; intro a hK
        refine klg hK 89 8 88 rfl (by decide) rfl (by kernel_rfl) rfl (decide_eq_false (by omega)) (fun ρ hρ => r_mv _ rfl (hρ _ _ rfl)) ?_
        clear hK a; intro a hK
        refine klg hK 90 8 88 rfl (by decide) rfl (by kernel_rfl) rfl (decide_eq_false (by omega)) (fun ρ hρ => r_len24 _ rfl (hρ _ _ rfl)) ?_
        clear hK a; intro a hK
        refine klg hK 91 8 88 rfl (by decide) rfl (by kernel_rfl) rfl (decide_eq_false (by omega)) (fun ρ hρ => r_gtr3 _ _ rfl (hρ _ _ rfl) (hρ _ _ rfl)) ?_
        clear hK a; intro a hK
        refine kl hK 92 rfl (by decide) rfl (fun ρ hρ => r_pickE _ _ _ rfl (decide_eq_false (by omega)) (hρ _ _ rfl) (hρ _ _ rfl)) ?_
        clear hK a; intro a hK
        refine wpList_nil ?_
        show Code.wp Yba.prog _ _ _ _
        refine wp_cond_false (by rw [hK.rho (.tmp 92) _ rfl]; exact congrArg Value.bool (decide_eq_false (by omega))) ?_
        refine wp_skip ?_
        show Code.wp Yba.prog _ _ _ _
        exact hnext a (hK.sub ⟨rfl, rfl, rfl, rfl, rfl, rfl, rfl, rfl, rfl, rfl, trivial⟩) (by omega) (by omega) (by omega)
end Go.Proofs.Ybulkexuo
