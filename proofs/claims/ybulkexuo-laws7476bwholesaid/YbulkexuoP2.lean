import Derived.Test.YbulkexuoP1
namespace Go.Proofs.Ybulkexuo
open Go.RowKit
set_option linter.unusedSimpArgs false
set_option linter.unusedVariables false


section
variable {ρ : Operand → Value} {o : Oper} {w : World}
theorem r_ix33p (x y : Operand) (ho : o.op = .indexAddr 33 x y) {p : Option Addr} {b q n c i : Nat} {k : IntKind} (hp : p = some ⟨b, q, none⟩) (hi : i < n) (h : ρ x = .slice p n c) (h' : ρ y = .int k i) : (execOp ρ o).run Yba.prog w = .ok (.value (.pointer (some ⟨b, q + i, none⟩))) w := r_ix33 x y ho hi (by rw [h, hp]) h'
end

/-! ### entries and levels -/
def entL (L : List (Nat × Int)) : List Value := L.flatMap fun e => [.int .i32 e.1, .int .i32 e.2]
theorem entL_len (L : List (Nat × Int)) : (entL L).length = L.length * 2 := by
  induction L with
  | nil => rfl
  | cons e L ih =>
    show (entL L).length + 1 + 1 = _
    rw [ih, List.length_cons]; omega
theorem entL_app (L : List (Nat × Int)) (e : Nat × Int) : entL (L ++ [e]) = entL L ++ [.int .i32 e.1, .int .i32 e.2] := by simp [entL]
theorem entL_get : ∀ (L : List (Nat × Int)) (k : Nat) (e : Nat × Int), L[k]? = some e → (entL L)[k * 2]? = some (.int .i32 e.1) ∧ (entL L)[k * 2 + 1]? = some (.int .i32 e.2)
  | [], _, _, h => by simp at h
  | a :: L, 0, e, h => by
    simp at h
    subst h
    exact ⟨rfl, rfl⟩
  | a :: L, k + 1, e, h => by
    have ih := entL_get L k e (by simpa using h)
    have h0 : entL (a :: L) = .int .i32 a.1 :: .int .i32 a.2 :: entL L := rfl
    rw [h0, show (k + 1) * 2 = k * 2 + 2 by omega]
    exact ih
/-- a part of a level: its entries below q -/
def PD.ELq (D : PD) (l q : Nat) : List (Nat × Int) := ((List.range q).filter (D.bit l)).map fun q => (q, D.cnt l q)
theorem ELq_succ (D : PD) (l q : Nat) : D.ELq l (q + 1) = D.ELq l q ++ if D.bit l q = true then [(q, D.cnt l q)] else [] := by
  unfold PD.ELq
  rw [List.range_succ, List.filter_append, List.map_append]
  by_cases h : D.bit l q = true
  · simp [h]
  · simp [h]
theorem ELq_len (D : PD) (l : Nat) : ∀ q, (D.ELq l q).length = rk (D.mask l) q
  | 0 => rfl
  | q + 1 => by
    rw [ELq_succ, List.length_append, ELq_len D l q]
    show _ = rk (D.mask l) q + D.mask l / 2 ^ q % 2
    by_cases h : D.mask l / 2 ^ q % 2 = 1
    · rw [if_pos (show D.bit l q = true from decide_eq_true h), h]; rfl
    · rw [if_neg (show ¬ D.bit l q = true from fun e => h (of_decide_eq_true e))]
      have := Nat.mod_lt (D.mask l / 2 ^ q) (show 0 < 2 by omega)
      have : D.mask l / 2 ^ q % 2 = 0 := by omega
      rw [this]; rfl
theorem ELq_all (D : PD) (l : Nat) : D.ELq l D.N = D.EL l := rfl
def levL (D : PD) (n : Nat) : List Value := (List.range n).flatMap fun l => [.int .i32 (D.eo l), .int .i32 (D.eo (l + 1))]
theorem levL_succ (D : PD) (n : Nat) : levL D (n + 1) = levL D n ++ [.int .i32 (D.eo n), .int .i32 (D.eo (n + 1))] := by
  unfold levL
  rw [List.range_succ, List.flatMap_append]
  simp
theorem levL_len (D : PD) : ∀ n, (levL D n).length = n * 2
  | 0 => rfl
  | n + 1 => by rw [levL_succ, List.length_append, levL_len D n]; simp; omega
theorem levL_get (D : PD) : ∀ n l, l < n → (levL D n)[l * 2]? = some (.int .i32 (D.eo l)) ∧ (levL D n)[l * 2 + 1]? = some (.int .i32 (D.eo (l + 1)))
  | 0, _, h => by omega
  | n + 1, l, h => by
    rw [levL_succ]
    by_cases e : l = n
    · subst e
      rw [List.getElem?_append_right (by rw [levL_len]; omega), List.getElem?_append_right (by rw [levL_len]; omega), levL_len]
      rw [show l * 2 - l * 2 = 0 by omega, show l * 2 + 1 - l * 2 = 1 by omega]
      exact ⟨rfl, rfl⟩
    · rw [List.getElem?_append_left (by rw [levL_len]; omega), List.getElem?_append_left (by rw [levL_len]; omega)]
      exact levL_get D n l (by omega)
/-- the two slices while they grow, since wS -/
structure EL2 (D : PD) (wS w : World) (eV lV : Value) (L : List (Nat × Int)) (n : Nat) : Prop where
  bel : Below wS.heap.size wS w
  ent : w.ownsRow wS.heap.size 38 2 eV L.length (entL L)
  lev : w.ownsRow wS.heap.size 40 2 lV n (levL D n)
  ene : eV ≠ .slice none 0 0 → 0 < L.length
  lne : lV ≠ .slice none 0 0 → 0 < n
theorem own_apart {w : World} {b b' : Nat} {e e' : TypeId} {s s' : Nat} {v v' : Value} {n n' : Nat} {xs xs' : List Value} (h : w.ownsRow b e s v n xs) (h' : w.ownsRow b' e' s' v' n' xs') (hne : e ≠ e') : v.ownBlock = none ∨ v.ownBlock ≠ v'.ownBlock := by
  rcases h.2 with ⟨rfl, _⟩ | ⟨g, cap, cur, rfl, h2, h3, h4⟩
  · exact .inl rfl
  · right
    intro hv
    rcases h'.2 with ⟨rfl, _⟩ | ⟨g', cap', cur', rfl, h2', h3', h4'⟩
    · cases hv
    · have : g = g' := by simpa [Value.ownBlock] using hv
      subst this
      rw [h3] at h3'
      cases h3'
      exact hne rfl
theorem EL2.below {D : PD} {wS w w' : World} {eV lV : Value} {L : List (Nat × Int)} {n : Nat} (h : EL2 D wS w eV lV L n) (hb : Below w.heap.size w w') : EL2 D wS w' eV lV L n :=
  ⟨bel_trans h.bel hb, own_block h.ent fun g hg => hb.block g (h.ent.lt g hg).2, own_block h.lev fun g hg => hb.block g (h.lev.lt g hg).2, h.ene, h.lne⟩


set_option maxRecDepth 100000 in
set_option maxHeartbeats 1000000 in
theorem lp4 (I : IN) (hF : I.Fine) (hll : I.ll ≤ 4096) (HB : Nat) (wS : World) (hI : I.At wS) (l : Nat) (hl : l < I.ll) (xB : Nat) (hxS : wS.heap.size ≤ xB) (lV : Value) (Q : Exit → Act → World → Prop) (K : Act → World → Prop) (hKK : ∀ a w eV, Kn 706 ((29, .int .i32 (I.D.eo l : Nat)) :: (151, .int .i64 (l : Nat)) :: (150, .int .i64 I.ll) :: (149, .slice I.lA I.ll I.lc) :: (26, lV) :: (25, eV) :: (22, .slice (some ⟨HB, 0, none⟩) I.N I.N) :: (21, .int .i32 I.N) :: LA I) a → EL2 I.D wS w eV lV (I.D.ent l ++ I.D.EL l) l → K a w) (a : Act) (w : World) (eV : Value) (hK : Kn 706 ((31, .int .i32 (0 : Nat)) :: (30, .int .i64 (rk (I.mask l) 0 : Nat)) :: (29, .int .i32 (I.D.eo l : Nat)) :: (28, ptr xB) :: (151, .int .i64 (l : Nat)) :: (150, .int .i64 I.ll) :: (149, .slice I.lA I.ll I.lc) :: (26, lV) :: (25, eV) :: (22, .slice (some ⟨HB, 0, none⟩) I.N I.N) :: (21, .int .i32 I.N) :: LA I) a) (hx : w.rowIs xB 35 2 (fun j => if j = 0 then .int .u32 (I.mask l) else .slice (I.A l) (I.nc l) (I.cc l))) (hE : EL2 I.D wS w eV lV (I.D.ent l) l) :
    Code.wp Yba.prog (nav [1, 1, 1, 1, 1, 1, 1, 1, 0, 1, 0, 0, 1, 1, 0, 0, 1, 1, 1, 0, 1] (Yba.f3.body.getD .skip)) (Exit.then K Q) a w := by
  have hN := I.N_le
  have heo : I.D.eo l ≤ l * 20 := eo_bound hN l
  have hm := hF.mask l hl
  refine loop_n K (fun n a w => ∃ q eV, q ≤ I.N ∧ n = I.N - q ∧ Kn 706 ((31, .int .i32 (q : Nat)) :: (30, .int .i64 (rk (I.mask l) q : Nat)) :: (29, .int .i32 (I.D.eo l : Nat)) :: (28, ptr xB) :: (151, .int .i64 (l : Nat)) :: (150, .int .i64 I.ll) :: (149, .slice I.lA I.ll I.lc) :: (26, lV) :: (25, eV) :: (22, .slice (some ⟨HB, 0, none⟩) I.N I.N) :: (21, .int .i32 I.N) :: LA I) a ∧ w.rowIs xB 35 2 (fun j => if j = 0 then .int .u32 (I.mask l) else .slice (I.A l) (I.nc l) (I.cc l)) ∧ EL2 I.D wS w eV lV (I.D.ent l ++ I.D.ELq l q) l) ⟨0, eV, Nat.zero_le _, rfl, hK, hx, by rw [show I.D.ELq l 0 = [] from rfl, List.append_nil]; exact hE⟩ ?_
  clear hK hx hE a w eV
  rintro n a w R ⟨q, eV, hq, hn, hK, hx, hE⟩ hR
  have x0 : w.cell? ⟨xB, 0, none⟩ = some (.int .u32 (I.mask l)) := hx.cell (i := 0) (by omega)
  have x1 : w.cell? ⟨xB, 1, none⟩ = some (.slice (I.A l) (I.nc l) (I.cc l)) := hx.cell (i := 1) (by omega)
  refine wp_seq ?_
  refine wp_seq ?_
  refine wp_region_lit ?_
  refine kl hK 158 rfl (by decide) rfl (fun ρ hρ => r_mv _ rfl (hρ _ _ rfl)) ?_
  clear hK a; intro a hK
  refine kl hK 159 rfl (by decide) rfl (fun ρ hρ => r_mv _ rfl (hρ _ _ rfl)) ?_
  clear hK a; intro a hK
  refine kl hK 160 rfl (by decide) rfl (fun ρ hρ => r_lss21 _ _ rfl (hρ _ _ rfl) (hρ _ _ rfl)) ?_
  clear hK a; intro a hK
  refine wpList_nil ?_
  show Code.wp Yba.prog _ _ _ _
  by_cases hql : q < I.N
  · have hdl : I.mask l / 2 ^ q ≤ I.mask l := Nat.div_le_self _ _
    have hrk := rk_le (I.mask l) q
    refine wp_cond_true (by rw [hK.rho (.tmp 160) _ rfl]; exact congrArg Value.bool (decide_eq_true (by omega))) ?_
    refine wp_skip ?_
    show Code.wp Yba.prog _ _ _ _
    replace hK := hK.sub (M := (31, .int .i32 (q : Nat)) :: (30, .int .i64 (rk (I.mask l) q : Nat)) :: (29, .int .i32 (I.D.eo l : Nat)) :: (28, ptr xB) :: (151, .int .i64 (l : Nat)) :: (150, .int .i64 I.ll) :: (149, .slice I.lA I.ll I.lc) :: (26, lV) :: (25, eV) :: (22, .slice (some ⟨HB, 0, none⟩) I.N I.N) :: (21, .int .i32 I.N) :: LA I) ⟨rfl, rfl, rfl, rfl, rfl, rfl, rfl, rfl, rfl, rfl, rfl, rfl, rfl, rfl, rfl, rfl, rfl, rfl, rfl, rfl, rfl, trivial⟩
    refine wp_seq ?_
    refine wp_block ?_
    refine wp_seq ?_
    refine wp_region_lit ?_
    refine kl hK 163 rfl (by decide) rfl (fun ρ hρ => r_fo35_0 _ rfl (hρ _ _ rfl)) ?_
    clear hK a; intro a hK
    refine kl hK 164 rfl (by decide) rfl (fun ρ hρ => r_ld30 _ rfl (hρ _ _ rfl) x0) ?_
    clear hK a; intro a hK
    refine kl hK 165 rfl (by decide) rfl (fun ρ hρ => r_mv _ rfl (hρ _ _ rfl)) ?_
    clear hK a; intro a hK
    refine kl hK 166 rfl (by decide) rfl (fun ρ hρ => r_cn21_36 _ rfl (by omega) (hρ _ _ rfl)) ?_
    clear hK a; intro a hK
    refine kl hK 167 rfl (by decide) rfl (fun ρ hρ => r_shr30 _ _ rfl (by omega) (hρ _ _ rfl) (hρ _ _ rfl)) ?_
    clear hK a; intro a hK
    refine kl hK 168 rfl (by decide) rfl (fun ρ hρ => r_bit _ _ rfl (by omega) (hρ _ _ rfl) (hρ _ _ rfl)) ?_
    clear hK a; intro a hK
    refine kl hK 169 rfl (by decide) rfl (fun ρ hρ => r_eql30 _ _ rfl (hρ _ _ rfl) (hρ _ _ rfl)) ?_
    clear hK a; intro a hK
    refine wpList_nil ?_
    show Code.wp Yba.prog _ _ _ _
    by_cases hbit : I.mask l / 2 ^ q % 2 = 1
    · have hbt : I.D.bit l q = true := decide_eq_true hbit
      have hrk1 : rk (I.mask l) (q + 1) = rk (I.mask l) q + 1 := by show rk (I.mask l) q + I.mask l / 2 ^ q % 2 = _; rw [hbit]
      refine wp_cond_true (by rw [hK.rho (.tmp 169) _ rfl]; exact congrArg Value.bool (decide_eq_true (by omega))) ?_
      refine wp_seq ?_
      refine wp_region_lit ?_
      refine kl hK 32 rfl (by decide) rfl (fun ρ hρ => r_as _ rfl (hρ _ _ rfl)) ?_
      clear hK a; intro a hK
      refine wpList_nil ?_
      show Code.wp Yba.prog _ _ _ _
      refine wp_seq ?_
      refine wp_seq ?_
      refine wp_region_lit ?_
      refine kl hK 170 rfl (by decide) rfl (fun ρ hρ => r_fo35_1 _ rfl (hρ _ _ rfl)) ?_
      clear hK a; intro a hK
      refine kl hK 171 rfl (by decide) rfl (fun ρ hρ => r_ld33 _ rfl (hρ _ _ rfl) x1) ?_
      clear hK a; intro a hK
      refine kl hK 172 rfl (by decide) rfl (fun ρ hρ => r_len33 _ rfl (hρ _ _ rfl)) ?_
      clear hK a; intro a hK
      refine kl hK 173 rfl (by decide) rfl (fun ρ hρ => r_gtr3 _ _ rfl (hρ _ _ rfl) (hρ _ _ rfl)) ?_
      clear hK a; intro a hK
      refine wpList_nil ?_
      show Code.wp Yba.prog _ _ _ _
      have tl : ∀ a w, Kn 706 ((32, .int .i32 (I.D.cnt l q)) :: (31, .int .i32 (q : Nat)) :: (30, .int .i64 (rk (I.mask l) q : Nat)) :: (29, .int .i32 (I.D.eo l : Nat)) :: (28, ptr xB) :: (151, .int .i64 (l : Nat)) :: (150, .int .i64 I.ll) :: (149, .slice I.lA I.ll I.lc) :: (26, lV) :: (25, eV) :: (22, .slice (some ⟨HB, 0, none⟩) I.N I.N) :: (21, .int .i32 I.N) :: LA I) a → w.rowIs xB 35 2 (fun j => if j = 0 then .int .u32 (I.mask l) else .slice (I.A l) (I.nc l) (I.cc l)) → EL2 I.D wS w eV lV (I.D.ent l ++ I.D.ELq l q) l → Code.wp Yba.prog (nav [1, 1, 1, 1, 1, 1, 1, 1, 0, 1, 0, 0, 1, 1, 0, 0, 1, 1, 1, 0, 1, 0, 0, 1, 0, 0, 1, 0, 1, 1] (Yba.f3.body.getD .skip)) (Exit.inBlock 5 (Exit.then (fun a w => Code.wp Yba.prog (nav [1, 1, 1, 1, 1, 1, 1, 1, 0, 1, 0, 0, 1, 1, 0, 0, 1, 1, 1, 0, 1, 0, 0, 1, 1] (Yba.f3.body.getD .skip)) (Exit.then R (Exit.inBlock 4 (Exit.then K Q))) a w) (Exit.then R (Exit.inBlock 4 (Exit.then K Q))))) a w := by
        clear hK hx hE x0 x1 a w
        intro a w hK hx hE
        conv => arg 2; whnf
        refine wp_seq ?_
        refine wp_region_lit ?_
        refine kl hK 183 rfl (by decide) rfl (fun ρ hρ => r_mv _ rfl (hρ _ _ rfl)) ?_
        clear hK a; intro a hK
        refine kl hK 184 rfl (by decide) rfl (fun ρ hρ => r_mv _ rfl (hρ _ _ rfl)) ?_
        clear hK a; intro a hK
        refine kl hK 185 rfl (by decide) rfl (fun ρ hρ => r_mv _ rfl (hρ _ _ rfl)) ?_
        clear hK a; intro a hK
        refine kl hK 186 rfl (by decide) rfl (fun ρ hρ => r_b38_01 _ _ rfl (hρ _ _ rfl) (hρ _ _ rfl)) ?_
        clear hK a; intro a hK
        refine kl hK 187 rfl (by decide) rfl (fun ρ hρ => r_bsl31 _ rfl (hρ _ _ rfl)) ?_
        clear hK a; intro a hK
        have hE1 := hE.below (bel_alloc (Below.refl w.heap.size w) (.cells #[.int .i32 q, .int .i32 (I.D.cnt l q)] 38))
        have hx1 := hx.of_block (Below.heap_alloc w (.cells #[.int .i32 q, .int .i32 (I.D.cnt l q)] 38) _ hx.lt)
        have hnew : ∀ j u, [Value.int .i32 q, .int .i32 (I.D.cnt l q)][j]? = some u → (w.alloc (.cells #[.int .i32 q, .int .i32 (I.D.cnt l q)] 38)).cell? ((⟨w.heap.size, 0, none⟩ : Addr).add j) = some u := fun j u hu => by
          have hadd : (⟨w.heap.size, 0, none⟩ : Addr).add j = ⟨w.heap.size, j, none⟩ := by unfold Addr.add; split <;> simp_all
          rw [hadd]
          refine cell_new w _ 38 ?_
          simpa using hu
        have hlen : (I.D.ent l ++ I.D.ELq l q).length ≤ 90000 := by
          rw [List.length_append, ELq_len]
          show I.D.eo l + rk (I.mask l) q ≤ 90000
          omega
        refine kapp hK 188 183 187 31 rfl (by decide) rfl rfl wS.heap.size Yba.underlying31 info38' rfl (by decide) (by decide) rfl rfl hE1.ent (news := [.int .i32 q, .int .i32 (I.D.cnt l q)]) rfl hnew (by simp [Value.oneCell']) (by decide) (by omega) (by have := hE1.bel.size; omega) ?_
        intro g cap w2 hown hgr hat hgl
        clear hK a; intro a hK
        refine kl hK 25 rfl (by decide) rfl (fun ρ hρ => r_as _ rfl (hρ _ _ rfl)) ?_
        clear hK a; intro a hK
        refine wpList_nil ?_
        show Code.wp Yba.prog _ _ _ _
        have hgb : ∀ k, eV.ownBlock = some k → wS.heap.size ≤ k ∧ k < (w.alloc (.cells #[.int .i32 q, .int .i32 (I.D.cnt l q)] 38)).heap.size := fun k hk => hE1.ent.lt k hk
        have hE2 : EL2 I.D wS w2 (.slice (some ⟨g, 0, none⟩) ((I.D.ent l ++ I.D.ELq l q).length + 1) cap) lV (I.D.ent l ++ I.D.ELq l (q + 1)) l := by
          have happ : I.D.ent l ++ I.D.ELq l (q + 1) = (I.D.ent l ++ I.D.ELq l q) ++ [(q, I.D.cnt l q)] := by rw [ELq_succ, if_pos hbt, List.append_assoc]
          refine ⟨hE1.bel.grown hgr (by have := hE1.bel.size; omega) fun k hk => (hgb k hk).1, ?_, hE1.lev.kept hgr ?_, fun _ => ?_, hE1.lne⟩
          · rw [happ, entL_app, show ∀ (L : List (Nat × Int)) (e : Nat × Int), (L ++ [e]).length = L.length + 1 from fun L e => by simp]; exact hown
          · rcases own_apart hE1.lev hE1.ent (by decide) with h | h
            · exact .inl h
            · exact .inr h
          · rw [happ, show ∀ (L : List (Nat × Int)) (e : Nat × Int), (L ++ [e]).length = L.length + 1 from fun L e => by simp]; omega
        have hx2 : w2.rowIs xB 35 2 (fun j => if j = 0 then .int .u32 (I.mask l) else .slice (I.A l) (I.nc l) (I.cc l)) := hx1.of_block (hgr.block xB hx1.lt fun e => own_ne hE1.ent hx1 (by decide) e.symm)
        refine wp_region_lit ?_
        refine kl hK 189 rfl (by decide) rfl (fun ρ hρ => r_mv _ rfl (hρ _ _ rfl)) ?_
        clear hK a; intro a hK
        refine kl hK 190 rfl (by decide) rfl (fun ρ hρ => r_inc3 _ rfl (by omega) (hρ _ _ rfl) (hρ _ _ rfl)) ?_
        clear hK a; intro a hK
        refine kl hK 30 rfl (by decide) rfl (fun ρ hρ => r_as _ rfl (hρ _ _ rfl)) ?_
        clear hK a; intro a hK
        refine wpList_nil ?_
        show Code.wp Yba.prog _ _ _ _
        refine wp_region_lit ?_
        refine kl hK 161 rfl (by decide) rfl (fun ρ hρ => r_mv _ rfl (hρ _ _ rfl)) ?_
        clear hK a; intro a hK
        refine kl hK 162 rfl (by decide) rfl (fun ρ hρ => r_inc21 _ rfl (by omega) (hρ _ _ rfl) (hρ _ _ rfl)) ?_
        clear hK a; intro a hK
        refine kl hK 31 rfl (by decide) rfl (fun ρ hρ => r_as _ rfl (hρ _ _ rfl)) ?_
        clear hK a; intro a hK
        refine wpList_nil ?_
        exact hR (I.N - (q + 1)) _ _ (by omega) ⟨q + 1, _, hql, rfl, hK.sub ⟨rfl, by rw [hrk1]; rfl, rfl, rfl, rfl, rfl, rfl, rfl, rfl, rfl, rfl, rfl, rfl, rfl, rfl, rfl, rfl, rfl, rfl, rfl, rfl, trivial⟩, hx2, hE2⟩
      by_cases hnc : I.nc l = 0
      · have hcn : I.D.cnt l q = 1 := if_pos hnc
        refine wp_cond_false (by rw [hK.rho (.tmp 173) _ rfl]; exact congrArg Value.bool (decide_eq_false (by omega))) ?_
        refine wp_skip ?_
        show Code.wp Yba.prog _ _ _ _
        exact tl a w (hK.sub ⟨by rw [hcn]; rfl, rfl, rfl, rfl, rfl, rfl, rfl, rfl, rfl, rfl, rfl, rfl, rfl, rfl, rfl, rfl, rfl, rfl, rfl, rfl, rfl, rfl, trivial⟩) hx hE
      · have hcn : I.D.cnt l q = I.C l (rk (I.mask l) q % I.nc l) := if_neg hnc
        obtain ⟨b, off, ha, hbl, hcell⟩ := ((hI.below hE.bel).lv l hl).2 (rk (I.mask l) q % I.nc l) (Nat.mod_lt _ (by show 0 < I.nc l; omega))
        have hmod := Nat.mod_lt (rk (I.mask l) q) (show 0 < I.nc l by omega)
        have hcell' : w.cell? ⟨b, off + rk (I.mask l) q % I.nc l, none⟩ = some (.int .i32 (I.C l (rk (I.mask l) q % I.nc l))) := hcell
        refine wp_cond_true (by rw [hK.rho (.tmp 173) _ rfl]; exact congrArg Value.bool (decide_eq_true (by omega))) ?_
        refine wp_region_quiet_lit (by kernel_rfl) (by kernel_rfl) ?_
        refine kq hK 174 rfl (by decide) rfl (fun ρ hρ w' hw' => r_fo35_1 _ rfl (hρ _ _ rfl)) ?_
        clear hK a; intro a hK
        refine kq hK 175 rfl (by decide) rfl (fun ρ hρ w' hw' => r_ld33 _ rfl (hρ _ _ rfl) (by obtain ⟨n, rfl⟩ := hw'; exact x1)) ?_
        clear hK a; intro a hK
        refine kq hK 176 rfl (by decide) rfl (fun ρ hρ w' hw' => r_mv _ rfl (hρ _ _ rfl)) ?_
        clear hK a; intro a hK
        refine kq hK 177 rfl (by decide) rfl (fun ρ hρ w' hw' => r_fo35_1 _ rfl (hρ _ _ rfl)) ?_
        clear hK a; intro a hK
        refine kq hK 178 rfl (by decide) rfl (fun ρ hρ w' hw' => r_ld33 _ rfl (hρ _ _ rfl) (by obtain ⟨n, rfl⟩ := hw'; exact x1)) ?_
        clear hK a; intro a hK
        refine kq hK 179 rfl (by decide) rfl (fun ρ hρ w' hw' => r_len33 _ rfl (hρ _ _ rfl)) ?_
        clear hK a; intro a hK
        refine kq hK 180 rfl (by decide) rfl (fun ρ hρ w' hw' => r_rem3 _ _ rfl (by omega) (hρ _ _ rfl) (hρ _ _ rfl)) ?_
        clear hK a; intro a hK
        refine kq hK 181 rfl (by decide) rfl (fun ρ hρ w' hw' => r_ix33p _ _ rfl ha hmod (hρ _ _ rfl) (hρ _ _ rfl)) ?_
        clear hK a; intro a hK
        refine kq hK 182 rfl (by decide) rfl (fun ρ hρ w' hw' => r_ld21 _ rfl (hρ _ _ rfl) (by obtain ⟨n, rfl⟩ := hw'; exact hcell')) ?_
        clear hK a; intro a hK
        refine kq hK 32 rfl (by decide) rfl (fun ρ hρ w' hw' => r_as _ rfl (hρ _ _ rfl)) ?_
        clear hK a; intro a hK
        refine wpQuiet_nil ?_
        rintro w' ⟨n, rfl⟩
        show Code.wp Yba.prog _ _ _ _
        exact tl a _ (hK.sub ⟨by rw [hcn]; rfl, rfl, rfl, rfl, rfl, rfl, rfl, rfl, rfl, rfl, rfl, rfl, rfl, rfl, rfl, rfl, rfl, rfl, rfl, rfl, rfl, rfl, trivial⟩) hx (hE.below (bel_drewN (Below.refl _ w) _))
    · have hbt : ¬ I.D.bit l q = true := fun h => hbit (of_decide_eq_true h)
      have hm2 := Nat.mod_lt (I.mask l / 2 ^ q) (show 0 < 2 by omega)
      have hrk1 : rk (I.mask l) (q + 1) = rk (I.mask l) q := by show rk (I.mask l) q + I.mask l / 2 ^ q % 2 = _; omega
      have hE2 : EL2 I.D wS w eV lV (I.D.ent l ++ I.D.ELq l (q + 1)) l := by rw [ELq_succ, if_neg hbt, List.append_nil]; exact hE
      refine wp_cond_false (by rw [hK.rho (.tmp 169) _ rfl]; exact congrArg Value.bool (decide_eq_false (by omega))) ?_
      refine wp_skip ?_
      show Code.wp Yba.prog _ _ _ _
      refine wp_region_lit ?_
      refine kl hK 161 rfl (by decide) rfl (fun ρ hρ => r_mv _ rfl (hρ _ _ rfl)) ?_
      clear hK a; intro a hK
      refine kl hK 162 rfl (by decide) rfl (fun ρ hρ => r_inc21 _ rfl (by omega) (hρ _ _ rfl) (hρ _ _ rfl)) ?_
      clear hK a; intro a hK
      refine kl hK 31 rfl (by decide) rfl (fun ρ hρ => r_as _ rfl (hρ _ _ rfl)) ?_
      clear hK a; intro a hK
      refine wpList_nil ?_
      exact hR (I.N - (q + 1)) _ _ (by omega) ⟨q + 1, eV, hql, rfl, hK.sub ⟨rfl, by rw [hrk1]; rfl, rfl, rfl, rfl, rfl, rfl, rfl, rfl, rfl, rfl, rfl, rfl, rfl, rfl, rfl, rfl, rfl, rfl, rfl, rfl, trivial⟩, hx, hE2⟩
  · have hle : q = I.N := by omega
    refine wp_cond_false (by rw [hK.rho (.tmp 160) _ rfl]; exact congrArg Value.bool (decide_eq_false (by omega))) ?_
    refine wp_exit ?_
    subst hle
    exact hKK _ _ eV (hK.sub ⟨rfl, rfl, rfl, rfl, rfl, rfl, rfl, rfl, rfl, rfl, rfl, rfl, rfl, rfl, rfl, rfl, rfl, rfl, trivial⟩) hE
end Go.Proofs.Ybulkexuo
