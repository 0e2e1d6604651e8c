import Derived.Test.YbulkexuoN11
namespace Go.Proofs.Ybulkexuo
open Go.RowKit
set_option linter.unusedSimpArgs false
set_option linter.unusedVariables false

/-! ### the input -/
structure IN where
  n0 : Nat
  lh : Nat
  hA : Option Addr
  hc : Nat
  hTo : Nat → Int
  hPos : Nat → Int
  hCnt : Nat → Int
  hAt : Nat → Int
  ll : Nat
  lA : Option Addr
  lc : Nat
  mask : Nat → Nat
  A : Nat → Option Addr
  nc : Nat → Nat
  cc : Nat → Nat
  C : Nat → Nat → Int
  lr : Nat
  rA : Option Addr
  rc : Nat
  rP : Nat → Int
  rO : Nat → Int
  rC : Nat → Int
  rB : Nat → Bool
  aP : Nat
  asc : Int
  aAt : Int
  gP : Nat
  gsc : Int
  gAt : Int
def u32 (z : Int) : Nat := (z % 4294967296).toNat
section
variable (I : IN)
def IN.N : Nat := 1 + I.n0 % 20
def IN.cond (p : Nat) : Prop := 1 ≤ p ∧ p - 1 < I.lh ∧ 0 ≤ I.hAt (p - 1)
instance (p : Nat) : Decidable (I.cond p) := inferInstanceAs (Decidable (_ ∧ _ ∧ _))
def IN.D : PD where
  N := I.N
  hto := fun p => if I.cond p then u32 (I.hTo (p - 1)) % p else 0
  hpos := fun p => if I.cond p then I.hPos (p - 1) else 0
  hcnt := fun p => if I.cond p then I.hCnt (p - 1) else 0
  hat := fun p => if I.cond p then I.hAt (p - 1) else -1
  ll := I.ll
  mask := I.mask
  nc := I.nc
  C := I.C
  asp := I.aP % I.N
  asc := I.asc
  aAt := I.aAt
  gsp := I.gP % I.N
  gsc := I.gsc
  gAt := I.gAt
structure IN.Fine : Prop where
  n0 : I.n0 < 256
  hands : ∀ i, i < I.lh → i32 (I.hTo i) ∧ i32 (I.hPos i) ∧ i32 (I.hCnt i) ∧ i32 (I.hAt i)
  mask : ∀ l, l < I.ll → I.mask l < 4294967296
  nc : ∀ l, l < I.ll → I.nc l ≤ 140737488355328
  C : ∀ l, l < I.ll → ∀ k, k < I.nc l → i32 (I.C l k)
  rs : ∀ i, i < I.lr → i32 (I.rP i) ∧ i32 (I.rO i) ∧ i32 (I.rC i)
  aP : I.aP < 256
  gP : I.gP < 256
  asc : i32 I.asc
  aAt : i32 I.aAt
  gsc : i32 I.gsc
  gAt : i32 I.gAt
structure IN.At (w : World) : Prop where
  hands : ∀ i, i < I.lh → ∃ b off, I.hA = some ⟨b, off, none⟩ ∧ b < w.heap.size ∧ w.cell? ⟨b, off + i * 4, none⟩ = some (.int .i32 (I.hTo i)) ∧ w.cell? ⟨b, off + i * 4 + 1, none⟩ = some (.int .i32 (I.hPos i)) ∧ w.cell? ⟨b, off + i * 4 + 2, none⟩ = some (.int .i32 (I.hCnt i)) ∧ w.cell? ⟨b, off + i * 4 + 3, none⟩ = some (.int .i32 (I.hAt i))
  lv : LvAt I.D w I.lA I.A I.cc
  rs : ∀ i, i < I.lr → ∃ b off, I.rA = some ⟨b, off, none⟩ ∧ b < w.heap.size ∧ w.cell? ⟨b, off + i * 4, none⟩ = some (.int .i32 (I.rP i)) ∧ w.cell? ⟨b, off + i * 4 + 1, none⟩ = some (.int .i32 (I.rO i)) ∧ w.cell? ⟨b, off + i * 4 + 2, none⟩ = some (.int .i32 (I.rC i)) ∧ w.cell? ⟨b, off + i * 4 + 3, none⟩ = some (.bool (I.rB i))
/-- the arguments' slots -/
def LA : List (Nat × Value) := [(0, .int .u8 I.n0), (1, .slice I.hA I.lh I.hc), (2, .slice I.lA I.ll I.lc), (3, .slice I.rA I.lr I.rc), (4, .int .u8 I.aP), (5, .int .i32 I.asc), (6, .int .i32 I.aAt), (7, .int .u8 I.gP), (8, .int .i32 I.gsc), (9, .int .i32 I.gAt)]
end
theorem IN.At.below {I : IN} {w w' : World} (h : I.At w) (hb : Below w.heap.size w w') : I.At w' := by
  refine ⟨fun i hi => ?_, h.lv.below hb, fun i hi => ?_⟩
  · obtain ⟨b, o, e, h1, h2, h3, h4, h5⟩ := h.hands i hi
    exact ⟨b, o, e, Nat.lt_of_lt_of_le h1 hb.size, (hb.cell (p := ⟨b, o + i * 4, none⟩) h1).trans h2, (hb.cell (p := ⟨b, o + i * 4 + 1, none⟩) h1).trans h3, (hb.cell (p := ⟨b, o + i * 4 + 2, none⟩) h1).trans h4, (hb.cell (p := ⟨b, o + i * 4 + 3, none⟩) h1).trans h5⟩
  · obtain ⟨b, o, e, h1, h2, h3, h4, h5⟩ := h.rs i hi
    exact ⟨b, o, e, Nat.lt_of_lt_of_le h1 hb.size, (hb.cell (p := ⟨b, o + i * 4, none⟩) h1).trans h2, (hb.cell (p := ⟨b, o + i * 4 + 1, none⟩) h1).trans h3, (hb.cell (p := ⟨b, o + i * 4 + 2, none⟩) h1).trans h4, (hb.cell (p := ⟨b, o + i * 4 + 3, none⟩) h1).trans h5⟩
theorem u32_lt (z : Int) : u32 z < 4294967296 := by unfold u32; omega
theorem IN.N_le (I : IN) : I.N ≤ 20 := by have := Nat.mod_lt I.n0 (show 0 < 20 by omega); unfold IN.N; omega
theorem IN.N_pos (I : IN) : 0 < I.N := by unfold IN.N; omega
theorem IN.fine {I : IN} (h : I.Fine) (hll : I.ll ≤ 4096) : I.D.Fine := by
  have z : i32 0 := ⟨by omega, by omega⟩
  have hN := I.N_pos
  refine ⟨I.N_pos, I.N_le, fun p hp => ?_, fun p hp h0 => ?_, hll, h.mask, h.nc, h.C, fun p hp => ?_, fun p hp => ?_, fun p hp => ?_, Nat.mod_lt _ I.N_pos, Nat.mod_lt _ I.N_pos, h.asc, h.aAt, h.gsc, h.gAt⟩
  · show (if I.cond p then u32 (I.hTo (p - 1)) % p else 0) < I.N
    split
    · rename_i hc
      have := Nat.mod_lt (u32 (I.hTo (p - 1))) (show 0 < p from hc.1)
      have : p < I.N := hp
      omega
    · exact hN
  · show (if I.cond p then u32 (I.hTo (p - 1)) % p else 0) < p
    have h1 : 0 ≤ (if I.cond p then I.hAt (p - 1) else -1) := h0
    split
    · rename_i hc
      exact Nat.mod_lt _ hc.1
    · rename_i hc
      rw [if_neg hc] at h1
      omega
  · show i32 (if I.cond p then I.hPos (p - 1) else 0)
    split
    · rename_i hc; exact (h.hands _ hc.2.1).2.1
    · exact z
  · show i32 (if I.cond p then I.hCnt (p - 1) else 0)
    split
    · rename_i hc; exact (h.hands _ hc.2.1).2.2.1
    · exact z
  · show i32 (if I.cond p then I.hAt (p - 1) else -1)
    split
    · rename_i hc; exact (h.hands _ hc.2.1).2.2.2
    · exact ⟨by omega, by omega⟩

/-! ### a row of hand-offs is stored to -/
def set4o (w : World) (b o : Nat) (v0 v1 v2 v3 : Value) : World := (((w.setCell ⟨b, o, none⟩ v0).setCell ⟨b, o + 1, none⟩ v1).setCell ⟨b, o + 2, none⟩ v2).setCell ⟨b, o + 3, none⟩ v3
theorem r_so27 {ρ : Operand → Value} {o : Oper} {w : World} (x y : Operand) (ho : o.op = .store 27 x y) {b p n : Nat} {f : Nat → Value} {z0 z1 z2 z3 : Int} (hr : w.rowIs b 27 n f) (hp : p + 3 < n) (h : ρ x = .pointer (some ⟨b, p, none⟩)) (h' : ρ y = .agg #[.int .i32 z0, .int .i32 z1, .int .i32 z2, .int .i32 z3]) :
    (execOp ρ o).run Yba.prog w = .ok .skip (set4o w b p (.int .i32 z0) (.int .i32 z1) (.int .i32 z2) (.int .i32 z3)) := by
  have r1 := hr.set p (.int .i32 z0)
  have r2 := r1.set (p + 1) (.int .i32 z1)
  have r3 := r2.set (p + 2) (.int .i32 z2)
  have c0 := hr.cell (i := p) (by omega)
  have c1 := r1.cell (i := p + 1) (by omega)
  have c2 := r2.cell (i := p + 2) (by omega)
  have c3 := r3.cell (i := p + 3) (by omega)
  have f0 := hr.frozen p
  have f1 := r1.frozen (p + 1)
  have f2 := r2.frozen (p + 2)
  have f3 := r3.frozen (p + 3)
  clear hr r1 r2 r3
  unfold set4o
  have u27 := Yba.underlying27
  have u21 := Yba.underlying21
  unfold execOp; rw [ho]; simp only; go_simp
/-- the first k hand-offs lie in the row b -/
def HRow (D : PD) (w : World) (b k : Nat) : Prop := ∃ f, w.rowIs b 27 (D.N * 4) f ∧ ∀ p, p < k → ∀ j, j < 4 → f (p * 4 + j) = D.hcell p j
theorem HRow.set {D : PD} {w : World} {b k : Nat} (h : HRow D w b k) (v0 v1 v2 v3 : Value) : ∃ f, (set4o w b (k * 4) v0 v1 v2 v3).rowIs b 27 (D.N * 4) f ∧ (∀ p, p < k → ∀ j, j < 4 → f (p * 4 + j) = D.hcell p j) ∧ f (k * 4) = v0 ∧ f (k * 4 + 1) = v1 ∧ f (k * 4 + 2) = v2 ∧ f (k * 4 + 3) = v3 := by
  obtain ⟨f, h1, h2⟩ := h
  refine ⟨_, (((h1.set (k * 4) v0).set (k * 4 + 1) v1).set (k * 4 + 2) v2).set (k * 4 + 3) v3, fun p hp j hj => ?_, ?_, ?_, ?_, ?_⟩
  · show (if p * 4 + j = k * 4 + 3 then _ else if p * 4 + j = k * 4 + 2 then _ else if p * 4 + j = k * 4 + 1 then _ else if p * 4 + j = k * 4 then _ else f (p * 4 + j)) = _
    rw [if_neg (by omega), if_neg (by omega), if_neg (by omega), if_neg (by omega)]
    exact h2 p hp j hj
  · simp
  · simp
  · simp
  · simp
theorem HRow.next {D : PD} {w : World} {b k : Nat} (h : HRow D w b k) : HRow D (set4o w b (k * 4) (D.hcell k 0) (D.hcell k 1) (D.hcell k 2) (D.hcell k 3)) b (k + 1) := by
  obtain ⟨f, h1, h2, e0, e1, e2, e3⟩ := h.set (D.hcell k 0) (D.hcell k 1) (D.hcell k 2) (D.hcell k 3)
  refine ⟨f, h1, fun p hp j hj => ?_⟩
  by_cases e : p < k
  · exact h2 p e j hj
  · obtain rfl : p = k := by omega
    match j, hj with
    | 0, _ => exact e0
    | 1, _ => exact e1
    | 2, _ => exact e2
    | 3, _ => exact e3
theorem HRow.put {D : PD} {w : World} {b k : Nat} (h : HRow D w b k) (v0 v1 v2 v3 : Value) : HRow D (set4o w b (k * 4) v0 v1 v2 v3) b k := by
  obtain ⟨f, h1, h2, -⟩ := h.set v0 v1 v2 v3
  exact ⟨f, h1, h2⟩
theorem set4o_below {N : Nat} {w0 w : World} {b o : Nat} (h : Below N w0 w) (hb : N ≤ b) (v0 v1 v2 v3 : Value) : Below N w0 (set4o w b o v0 v1 v2 v3) := (((h.setCell (p := ⟨b, o, none⟩) hb _).setCell (p := ⟨b, o + 1, none⟩) hb _).setCell (p := ⟨b, o + 2, none⟩) hb _).setCell (p := ⟨b, o + 3, none⟩) hb _
theorem HRow.at {D : PD} {w : World} {b : Nat} (h : HRow D w b D.N) : HandAt D w b := fun p hp => by
  obtain ⟨f, h1, h2⟩ := h
  refine ⟨?_, ?_, ?_, ?_⟩
  · have := h1.cell (i := p * 4) (by omega); have e := h2 p hp 0 (by omega); rw [Nat.add_zero] at e; rw [e] at this; exact this
  · have := h1.cell (i := p * 4 + 1) (by omega); rw [h2 p hp 1 (by omega)] at this; exact this
  · have := h1.cell (i := p * 4 + 2) (by omega); rw [h2 p hp 2 (by omega)] at this; exact this
  · have := h1.cell (i := p * 4 + 3) (by omega); rw [h2 p hp 3 (by omega)] at this; exact this

section
variable {ρ : Operand → Value} {o : Oper} {w : World}
theorem r_ix22p (x y : Operand) (ho : o.op = .indexAddr 22 x y) {p : Option Addr} {b q n c i : Nat} {k : IntKind} (hp : p = some ⟨b, q, none⟩) (hi : i < n) (h : ρ x = .slice p n c) (h' : ρ y = .int k i) : (execOp ρ o).run Yba.prog w = .ok (.value (.pointer (some ⟨b, q + i * 4, none⟩))) w := r_ix22 x y ho hi (by rw [h, hp]) h'
theorem r_ix23p (x y : Operand) (ho : o.op = .indexAddr 23 x y) {p : Option Addr} {b q n c i : Nat} {k : IntKind} (hp : p = some ⟨b, q, none⟩) (hi : i < n) (h : ρ x = .slice p n c) (h' : ρ y = .int k i) : (execOp ρ o).run Yba.prog w = .ok (.value (.pointer (some ⟨b, q + i * 2, none⟩))) w := r_ix23 x y ho hi (by rw [h, hp]) h'
theorem r_ix24p (x y : Operand) (ho : o.op = .indexAddr 24 x y) {p : Option Addr} {b q n c i : Nat} {k : IntKind} (hp : p = some ⟨b, q, none⟩) (hi : i < n) (h : ρ x = .slice p n c) (h' : ρ y = .int k i) : (execOp ρ o).run Yba.prog w = .ok (.value (.pointer (some ⟨b, q + i * 4, none⟩))) w := r_ix24 x y ho hi (by rw [h, hp]) h'
end
set_option maxRecDepth 100000 in
set_option maxHeartbeats 1000000 in
theorem lp0 (I : IN) (w0 : World) (hI : I.At w0) (hF : I.Fine) (HB : Nat) (hHB : w0.heap.size ≤ HB) (Q : Exit → Act → World → Prop) (K : Act → World → Prop) (hKK : ∀ a w, Kn 706 ((22, .slice (some ⟨HB, 0, none⟩) I.N I.N) :: (21, .int .i32 I.N) :: LA I) a → Below w0.heap.size w0 w → HRow I.D w HB I.N → K a w) (a : Act) (w : World) (hK : Kn 706 ((23, .int .i32 (1 : Nat)) :: (22, .slice (some ⟨HB, 0, none⟩) I.N I.N) :: (21, .int .i32 I.N) :: LA I) a) (hb : Below w0.heap.size w0 w) (hR : HRow I.D w HB 1) :
    Code.wp Yba.prog (nav [1, 1, 1, 1, 1, 0, 1] (Yba.f3.body.getD .skip)) (Exit.then K Q) a w := by
  have hN := I.N_le
  have hN1 := I.N_pos
  refine loop_n K (fun n a w => ∃ p, 1 ≤ p ∧ p ≤ I.N ∧ n = I.N - p ∧ Kn 706 ((23, .int .i32 (p : Nat)) :: (22, .slice (some ⟨HB, 0, none⟩) I.N I.N) :: (21, .int .i32 I.N) :: LA I) a ∧ Below w0.heap.size w0 w ∧ HRow I.D w HB p) ⟨1, Nat.le_refl _, hN1, rfl, hK, hb, hR⟩ ?_
  clear hK hb hR a w
  rintro n a w R ⟨p, hp1, hp, hn, hK, hb, hRow⟩ hR
  refine wp_seq ?_
  refine wp_seq ?_
  refine wp_region_lit ?_
  refine kl hK 103 rfl (by decide) rfl (fun ρ hρ => r_mv _ rfl (hρ _ _ rfl)) ?_
  clear hK a; intro a hK
  refine kl hK 104 rfl (by decide) rfl (fun ρ hρ => r_mv _ rfl (hρ _ _ rfl)) ?_
  clear hK a; intro a hK
  refine kl hK 105 rfl (by decide) rfl (fun ρ hρ => r_lss21 _ _ rfl (hρ _ _ rfl) (hρ _ _ rfl)) ?_
  clear hK a; intro a hK
  refine wpList_nil ?_
  show Code.wp Yba.prog _ _ _ _
  by_cases hpl : p < I.N
  · have hRow0 := hRow
    obtain ⟨f0, hr0, -⟩ := hRow0
    have hN4 : p * 4 + 3 < I.D.N * 4 := by show p * 4 + 3 < I.N * 4; omega
    refine wp_cond_true (by rw [hK.rho (.tmp 105) _ rfl]; exact congrArg Value.bool (decide_eq_true (by omega))) ?_
    refine wp_skip ?_
    show Code.wp Yba.prog _ _ _ _
    replace hK := hK.sub (M := (23, .int .i32 (p : Nat)) :: (22, .slice (some ⟨HB, 0, none⟩) I.N I.N) :: (21, .int .i32 I.N) :: LA I) ⟨rfl, rfl, rfl, rfl, rfl, rfl, rfl, rfl, rfl, rfl, rfl, rfl, rfl, trivial⟩
    refine wp_seq ?_
    refine wp_block ?_
    refine wp_seq ?_
    refine wp_region_lit ?_
    refine kl hK 108 rfl (by decide) rfl (fun ρ hρ => r_mv _ rfl (hρ _ _ rfl)) ?_
    clear hK a; intro a hK
    refine kl hK 109 rfl (by decide) rfl (fun ρ hρ => r_mv _ rfl (hρ _ _ rfl)) ?_
    clear hK a; intro a hK
    refine kl hK 110 rfl (by decide) rfl (fun ρ hρ => r_b27_3c rfl (hρ _ _ rfl)) ?_
    clear hK a; intro a hK
    refine kl hK 111 rfl (by decide) rfl (fun ρ hρ => r_ix25z _ _ rfl hpl (hρ _ _ rfl) (hρ _ _ rfl)) ?_
    clear hK a; intro a hK
    refine kst hK rfl rfl (fun ρ hρ => r_so27 _ _ rfl hr0 hN4 (hρ _ _ rfl) (hρ _ _ rfl)) ?_
    refine wpList_nil ?_
    show Code.wp Yba.prog _ _ _ _
    have hb1 : Below w0.heap.size w0 (set4o w HB (p * 4) (.int .i32 0) (.int .i32 0) (.int .i32 0) (.int .i32 (-1))) := set4o_below hb hHB _ _ _ _
    have hRow1 : HRow I.D (set4o w HB (p * 4) (.int .i32 0) (.int .i32 0) (.int .i32 0) (.int .i32 (-1))) HB p := hRow.put _ _ _ _
    have hskip : ¬ I.cond p → HRow I.D (set4o w HB (p * 4) (.int .i32 0) (.int .i32 0) (.int .i32 0) (.int .i32 (-1))) HB (p + 1) := fun hc => by
      have h1 : I.D.hcell p 0 = .int .i32 0 := by show Value.int .i32 ((if I.cond p then u32 (I.hTo (p - 1)) % p else 0 : Nat) : Int) = _; rw [if_neg hc]; rfl
      have h2 : I.D.hcell p 1 = .int .i32 0 := by show Value.int .i32 (if I.cond p then I.hPos (p - 1) else 0) = _; rw [if_neg hc]
      have h3 : I.D.hcell p 2 = .int .i32 0 := by show Value.int .i32 (if I.cond p then I.hCnt (p - 1) else 0) = _; rw [if_neg hc]
      have h4 : I.D.hcell p 3 = .int .i32 (-1) := by show Value.int .i32 (if I.cond p then I.hAt (p - 1) else -1) = _; rw [if_neg hc]
      have := hRow.next
      rw [h1, h2, h3, h4] at this
      exact this
    clear hRow hb hr0
    generalize (set4o w HB (p * 4) (.int .i32 0) (.int .i32 0) (.int .i32 0) (.int .i32 (-1))) = w1 at *
    clear w
    replace hK := hK.sub (M := (23, .int .i32 (p : Nat)) :: (22, .slice (some ⟨HB, 0, none⟩) I.N I.N) :: (21, .int .i32 I.N) :: LA I) ⟨rfl, rfl, rfl, rfl, rfl, rfl, rfl, rfl, rfl, rfl, rfl, rfl, rfl, trivial⟩
    refine wp_seq ?_
    by_cases hlt : p - 1 < I.lh
    · obtain ⟨b, off, ha, hbl, c0, c1, c2, c3⟩ := (hI.below hb1).hands (p - 1) hlt
      obtain ⟨f0, f1, f2, f3⟩ := hF.hands (p - 1) hlt
      by_cases h0 : 0 ≤ I.hAt (p - 1)
      · have hcd : I.cond p := ⟨hp1, hlt, h0⟩
        refine wp_region_lit ?_
        refine kl hK 112 rfl (by decide) rfl (fun ρ hρ => r_mv _ rfl (hρ _ _ rfl)) ?_
        clear hK a; intro a hK
        refine kl hK 113 rfl (by decide) rfl (fun ρ hρ => r_dec21 _ rfl (by omega) (by omega) (hρ _ _ rfl) (hρ _ _ rfl)) ?_
        clear hK a; intro a hK
        refine kl hK 114 rfl (by decide) rfl (fun ρ hρ => r_cn21_3 _ rfl (by omega) (hρ _ _ rfl)) ?_
        clear hK a; intro a hK
        refine kl hK 115 rfl (by decide) rfl (fun ρ hρ => r_mv _ rfl (hρ _ _ rfl)) ?_
        clear hK a; intro a hK
        refine kl hK 116 rfl (by decide) rfl (fun ρ hρ => r_len22 _ rfl (hρ _ _ rfl)) ?_
        clear hK a; intro a hK
        refine kl hK 117 rfl (by decide) rfl (fun ρ hρ => r_lss3 _ _ rfl (hρ _ _ rfl) (hρ _ _ rfl)) ?_
        clear hK a; intro a hK
        refine kl hK 118 rfl (by decide) rfl (fun ρ hρ => r_mv _ rfl (hρ _ _ rfl)) ?_
        clear hK a; intro a hK
        refine klg hK 119 6 118 rfl (by decide) rfl (by kernel_rfl) rfl (decide_eq_true (by omega)) (fun ρ hρ => r_mv _ rfl (hρ _ _ rfl)) ?_
        clear hK a; intro a hK
        refine klg hK 120 6 118 rfl (by decide) rfl (by kernel_rfl) rfl (decide_eq_true (by omega)) (fun ρ hρ => r_mv _ rfl (hρ _ _ rfl)) ?_
        clear hK a; intro a hK
        refine klg hK 121 6 118 rfl (by decide) rfl (by kernel_rfl) rfl (decide_eq_true (by omega)) (fun ρ hρ => r_dec21 _ rfl (by omega) (by omega) (hρ _ _ rfl) (hρ _ _ rfl)) ?_
        clear hK a; intro a hK
        refine klg hK 122 6 118 rfl (by decide) rfl (by kernel_rfl) rfl (decide_eq_true (by omega)) (fun ρ hρ => r_ix22p _ _ rfl ha hlt (hρ _ _ rfl) (hρ _ _ rfl)) ?_
        clear hK a; intro a hK
        refine klg hK 123 6 118 rfl (by decide) rfl (by kernel_rfl) rfl (decide_eq_true (by omega)) (fun ρ hρ => r_fa29_3 _ rfl (hρ _ _ rfl)) ?_
        clear hK a; intro a hK
        refine klg hK 124 6 118 rfl (by decide) rfl (by kernel_rfl) rfl (decide_eq_true (by omega)) (fun ρ hρ => r_ld21 _ rfl (hρ _ _ rfl) c3) ?_
        clear hK a; intro a hK
        refine klg hK 125 6 118 rfl (by decide) rfl (by kernel_rfl) rfl (decide_eq_true (by omega)) (fun ρ hρ => r_geq21 _ _ rfl (hρ _ _ rfl) (hρ _ _ rfl)) ?_
        clear hK a; intro a hK
        refine kl hK 126 rfl (by decide) rfl (fun ρ hρ => r_pickT _ _ _ rfl (decide_eq_true (by omega)) (hρ _ _ rfl) (hρ _ _ rfl)) ?_
        clear hK a; intro a hK
        refine wpList_nil ?_
        show Code.wp Yba.prog _ _ _ _
        refine wp_cond_true (by rw [hK.rho (.tmp 126) _ rfl]; exact congrArg Value.bool (decide_eq_true h0)) ?_
        replace hK := hK.sub (M := (23, .int .i32 (p : Nat)) :: (22, .slice (some ⟨HB, 0, none⟩) I.N I.N) :: (21, .int .i32 I.N) :: LA I) ⟨rfl, rfl, rfl, rfl, rfl, rfl, rfl, rfl, rfl, rfl, rfl, rfl, rfl, trivial⟩
        refine wp_seq ?_
        refine wp_region_lit ?_
        refine kl hK 127 rfl (by decide) rfl (fun ρ hρ => r_mv _ rfl (hρ _ _ rfl)) ?_
        clear hK a; intro a hK
        refine kl hK 128 rfl (by decide) rfl (fun ρ hρ => r_mv _ rfl (hρ _ _ rfl)) ?_
        clear hK a; intro a hK
        refine kl hK 129 rfl (by decide) rfl (fun ρ hρ => r_dec21 _ rfl (by omega) (by omega) (hρ _ _ rfl) (hρ _ _ rfl)) ?_
        clear hK a; intro a hK
        refine kl hK 130 rfl (by decide) rfl (fun ρ hρ => r_ix22p _ _ rfl ha hlt (hρ _ _ rfl) (hρ _ _ rfl)) ?_
        clear hK a; intro a hK
        refine kl hK 131 rfl (by decide) rfl (fun ρ hρ => r_ld29 _ rfl (hρ _ _ rfl) c0 c1 c2 c3) ?_
        clear hK a; intro a hK
        refine kl hK 24 rfl (by decide) rfl (fun ρ hρ => r_al29 rfl) ?_
        clear hK a; intro a hK
        refine kst hK rfl rfl (fun ρ hρ => r_st29 (w := w1) _ _ rfl (hρ _ _ rfl) (hρ _ _ rfl)) ?_
        refine wpList_nil ?_
        show Code.wp Yba.prog _ _ _ _
        have n0 := cell_new w1 #[.int .i32 (I.hTo (p - 1)), .int .i32 (I.hPos (p - 1)), .int .i32 (I.hCnt (p - 1)), .int .i32 (I.hAt (p - 1))] 29 (i := 0) rfl
        have n1 := cell_new w1 #[.int .i32 (I.hTo (p - 1)), .int .i32 (I.hPos (p - 1)), .int .i32 (I.hCnt (p - 1)), .int .i32 (I.hAt (p - 1))] 29 (i := 1) rfl
        have n2 := cell_new w1 #[.int .i32 (I.hTo (p - 1)), .int .i32 (I.hPos (p - 1)), .int .i32 (I.hCnt (p - 1)), .int .i32 (I.hAt (p - 1))] 29 (i := 2) rfl
        have n3 := cell_new w1 #[.int .i32 (I.hTo (p - 1)), .int .i32 (I.hPos (p - 1)), .int .i32 (I.hCnt (p - 1)), .int .i32 (I.hAt (p - 1))] 29 (i := 3) rfl
        have hb2 := bel_alloc hb1 (.cells #[.int .i32 (I.hTo (p - 1)), .int .i32 (I.hPos (p - 1)), .int .i32 (I.hCnt (p - 1)), .int .i32 (I.hAt (p - 1))] 29)
        have hHlt : HB < w1.heap.size := by obtain ⟨f, h1, -⟩ := hRow1; exact h1.lt
        have hRow2 : HRow I.D (w1.alloc (.cells #[.int .i32 (I.hTo (p - 1)), .int .i32 (I.hPos (p - 1)), .int .i32 (I.hCnt (p - 1)), .int .i32 (I.hAt (p - 1))] 29)) HB p := by
          obtain ⟨f, h1, h2⟩ := hRow1
          exact ⟨f, h1.of_block (Below.heap_alloc _ _ _ hHlt), h2⟩
        clear hskip hRow1
        generalize w1.alloc (.cells #[.int .i32 (I.hTo (p - 1)), .int .i32 (I.hPos (p - 1)), .int .i32 (I.hCnt (p - 1)), .int .i32 (I.hAt (p - 1))] 29) = w2 at *
        generalize w1.heap.size = xB at *
        have hRow3 := hRow2
        obtain ⟨f3, hr3, -⟩ := hRow3
        have hu : IntKind.u32.wrap (I.hTo (p - 1)) = ((u32 (I.hTo (p - 1)) : Nat) : Int) := by rw [IntKind.wrap_u32]; unfold u32; omega
        have hur := Nat.mod_lt (u32 (I.hTo (p - 1))) (show 0 < p by omega)
        replace hK := hK.sub (M := (24, ptr xB) :: (23, .int .i32 (p : Nat)) :: (22, .slice (some ⟨HB, 0, none⟩) I.N I.N) :: (21, .int .i32 I.N) :: LA I) ⟨rfl, rfl, rfl, rfl, rfl, rfl, rfl, rfl, rfl, rfl, rfl, rfl, rfl, rfl, trivial⟩
        refine wp_region_noPanic ?_
        refine wp_region_peel' (fun w' => w'.cell? ⟨xB, 0, none⟩ = some (.int .i32 (I.hTo (p - 1))) ∧ w'.cell? ⟨xB, 1, none⟩ = some (.int .i32 (I.hPos (p - 1))) ∧ w'.cell? ⟨xB, 2, none⟩ = some (.int .i32 (I.hCnt (p - 1))) ∧ w'.cell? ⟨xB, 3, none⟩ = some (.int .i32 (I.hAt (p - 1)))) (by simp) (by kernel_rfl) (by kernel_rfl) (by kernel_rfl) ?_
        have hS0 : (fun w' : World => w'.cell? ⟨xB, 0, none⟩ = some (.int .i32 (I.hTo (p - 1))) ∧ w'.cell? ⟨xB, 1, none⟩ = some (.int .i32 (I.hPos (p - 1))) ∧ w'.cell? ⟨xB, 2, none⟩ = some (.int .i32 (I.hCnt (p - 1))) ∧ w'.cell? ⟨xB, 3, none⟩ = some (.int .i32 (I.hAt (p - 1)))) w2.drew := ⟨n0, n1, n2, n3⟩
        refine kt hK (i := 0) 132 rfl (by kernel_rfl) (by kernel_rfl) (by kernel_rfl) (fun _ _ _ h => h) hS0 rfl (by decide) rfl (fun ρ hρ w' hw' => r_mv _ rfl (hρ _ _ rfl)) ?_
        clear hK a; intro a hK
        refine kt hK (i := 1) 133 rfl (by kernel_rfl) (by kernel_rfl) (by kernel_rfl) (fun _ _ _ h => h) hS0 rfl (by decide) rfl (fun ρ hρ w' hw' => r_mv _ rfl (hρ _ _ rfl)) ?_
        clear hK a; intro a hK
        refine kt hK (i := 2) 134 rfl (by kernel_rfl) (by kernel_rfl) (by kernel_rfl) (fun _ _ _ h => h) hS0 rfl (by decide) rfl (fun ρ hρ w' hw' => r_fo29_0 _ rfl (hρ _ _ rfl)) ?_
        clear hK a; intro a hK
        refine kt hK (i := 3) 135 rfl (by kernel_rfl) (by kernel_rfl) (by kernel_rfl) (fun _ _ _ h => h) hS0 rfl (by decide) rfl (fun ρ hρ w' hw' => r_ld21 _ rfl (hρ _ _ rfl) hw'.1) ?_
        clear hK a; intro a hK
        refine kt hK (i := 4) 136 rfl (by kernel_rfl) (by kernel_rfl) (by kernel_rfl) (fun _ _ _ h => h) hS0 rfl (by decide) rfl (fun ρ hρ w' hw' => r_cv21_30 _ rfl hu (hρ _ _ rfl)) ?_
        clear hK a; intro a hK
        refine kt hK (i := 5) 137 rfl (by kernel_rfl) (by kernel_rfl) (by kernel_rfl) (fun _ _ _ h => h) hS0 rfl (by decide) rfl (fun ρ hρ w' hw' => r_mv _ rfl (hρ _ _ rfl)) ?_
        clear hK a; intro a hK
        refine kt hK (i := 6) 138 rfl (by kernel_rfl) (by kernel_rfl) (by kernel_rfl) (fun _ _ _ h => h) hS0 rfl (by decide) rfl (fun ρ hρ w' hw' => r_cn21_30 _ rfl (by omega) (hρ _ _ rfl)) ?_
        clear hK a; intro a hK
        refine kt hK (i := 7) 139 rfl (by kernel_rfl) (by kernel_rfl) (by kernel_rfl) (fun _ _ _ h => h) hS0 rfl (by decide) rfl (fun ρ hρ w' hw' => r_rem30 _ _ rfl (by omega) (hρ _ _ rfl) (hρ _ _ rfl)) ?_
        clear hK a; intro a hK
        refine kt hK (i := 8) 140 rfl (by kernel_rfl) (by kernel_rfl) (by kernel_rfl) (fun _ _ _ h => h) hS0 rfl (by decide) rfl (fun ρ hρ w' hw' => r_cn30_21 _ rfl (by omega) (hρ _ _ rfl)) ?_
        clear hK a; intro a hK
        refine kt hK (i := 9) 141 rfl (by kernel_rfl) (by kernel_rfl) (by kernel_rfl) (fun _ _ _ h => h) hS0 rfl (by decide) rfl (fun ρ hρ w' hw' => r_fo29_1 _ rfl (hρ _ _ rfl)) ?_
        clear hK a; intro a hK
        refine kt hK (i := 10) 142 rfl (by kernel_rfl) (by kernel_rfl) (by kernel_rfl) (fun _ _ _ h => h) hS0 rfl (by decide) rfl (fun ρ hρ w' hw' => r_ld21 _ rfl (hρ _ _ rfl) hw'.2.1) ?_
        clear hK a; intro a hK
        refine kt hK (i := 11) 143 rfl (by kernel_rfl) (by kernel_rfl) (by kernel_rfl) (fun _ _ _ h => h) hS0 rfl (by decide) rfl (fun ρ hρ w' hw' => r_fo29_2 _ rfl (hρ _ _ rfl)) ?_
        clear hK a; intro a hK
        refine kt hK (i := 12) 144 rfl (by kernel_rfl) (by kernel_rfl) (by kernel_rfl) (fun _ _ _ h => h) hS0 rfl (by decide) rfl (fun ρ hρ w' hw' => r_ld21 _ rfl (hρ _ _ rfl) hw'.2.2.1) ?_
        clear hK a; intro a hK
        refine kt hK (i := 13) 145 rfl (by kernel_rfl) (by kernel_rfl) (by kernel_rfl) (fun _ _ _ h => h) hS0 rfl (by decide) rfl (fun ρ hρ w' hw' => r_fo29_3 _ rfl (hρ _ _ rfl)) ?_
        clear hK a; intro a hK
        refine kt hK (i := 14) 146 rfl (by kernel_rfl) (by kernel_rfl) (by kernel_rfl) (fun _ _ _ h => h) hS0 rfl (by decide) rfl (fun ρ hρ w' hw' => r_ld21 _ rfl (hρ _ _ rfl) hw'.2.2.2) ?_
        clear hK a; intro a hK
        refine kt hK (i := 15) 147 rfl (by kernel_rfl) (by kernel_rfl) (by kernel_rfl) (fun _ _ _ h => h) hS0 rfl (by decide) rfl (fun ρ hρ w' hw' => r_b27_0123 _ _ _ _ rfl (hρ _ _ rfl) (hρ _ _ rfl) (hρ _ _ rfl) (hρ _ _ rfl)) ?_
        clear hK a; intro a hK
        refine kt hK (i := 16) 148 rfl (by kernel_rfl) (by kernel_rfl) (by kernel_rfl) (fun _ _ _ h => h) hS0 rfl (by decide) rfl (fun ρ hρ w' hw' => r_ix25z _ _ rfl hpl (hρ _ _ rfl) (hρ _ _ rfl)) ?_
        clear hK a; intro a hK
        refine wpAnyH_done (by kernel_rfl) ?_ _
        refine peel_st hK rfl (fun ρ hρ => r_so27 _ _ rfl (hr3.of_block (w' := w2.drew) rfl) hN4 (hρ _ _ rfl) (hρ _ _ rfl)) ?_
        show Code.wp Yba.prog _ _ _ _
        have hb3 : Below w0.heap.size w0 (set4o w2.drew HB (p * 4) (.int .i32 ((u32 (I.hTo (p - 1)) % p : Nat) : Int)) (.int .i32 (I.hPos (p - 1))) (.int .i32 (I.hCnt (p - 1))) (.int .i32 (I.hAt (p - 1)))) := set4o_below hb2.drew hHB _ _ _ _
        have hRow4 : HRow I.D (set4o w2.drew HB (p * 4) (.int .i32 ((u32 (I.hTo (p - 1)) % p : Nat) : Int)) (.int .i32 (I.hPos (p - 1))) (.int .i32 (I.hCnt (p - 1))) (.int .i32 (I.hAt (p - 1)))) HB (p + 1) := by
          have h1 : I.D.hcell p 0 = .int .i32 ((u32 (I.hTo (p - 1)) % p : Nat) : Int) := by show Value.int .i32 ((if I.cond p then u32 (I.hTo (p - 1)) % p else 0 : Nat) : Int) = _; rw [if_pos hcd]
          have h2 : I.D.hcell p 1 = .int .i32 (I.hPos (p - 1)) := by show Value.int .i32 (if I.cond p then I.hPos (p - 1) else 0) = _; rw [if_pos hcd]
          have h3 : I.D.hcell p 2 = .int .i32 (I.hCnt (p - 1)) := by show Value.int .i32 (if I.cond p then I.hCnt (p - 1) else 0) = _; rw [if_pos hcd]
          have h4 : I.D.hcell p 3 = .int .i32 (I.hAt (p - 1)) := by show Value.int .i32 (if I.cond p then I.hAt (p - 1) else -1) = _; rw [if_pos hcd]
          have h0' : HRow I.D w2.drew HB p := by
            obtain ⟨f, h1, h2⟩ := hRow2
            exact ⟨f, h1, h2⟩
          have := h0'.next
          rw [h1, h2, h3, h4] at this
          exact this
        show Code.wp Yba.prog _ _ _ _
        refine wp_region_lit ?_
        refine kl hK 106 rfl (by decide) rfl (fun ρ hρ => r_mv _ rfl (hρ _ _ rfl)) ?_
        clear hK a; intro a hK
        refine kl hK 107 rfl (by decide) rfl (fun ρ hρ => r_inc21 _ rfl (by omega) (hρ _ _ rfl) (hρ _ _ rfl)) ?_
        clear hK a; intro a hK
        refine kl hK 23 rfl (by decide) rfl (fun ρ hρ => r_as _ rfl (hρ _ _ rfl)) ?_
        clear hK a; intro a hK
        refine wpList_nil ?_
        exact hR (I.N - (p + 1)) _ _ (by omega) ⟨p + 1, by omega, hpl, rfl, hK.sub ⟨rfl, rfl, rfl, rfl, rfl, rfl, rfl, rfl, rfl, rfl, rfl, rfl, rfl, trivial⟩, hb3, hRow4⟩
      · have hcd : ¬ I.cond p := fun h => h0 h.2.2
        refine wp_region_lit ?_
        refine kl hK 112 rfl (by decide) rfl (fun ρ hρ => r_mv _ rfl (hρ _ _ rfl)) ?_
        clear hK a; intro a hK
        refine kl hK 113 rfl (by decide) rfl (fun ρ hρ => r_dec21 _ rfl (by omega) (by omega) (hρ _ _ rfl) (hρ _ _ rfl)) ?_
        clear hK a; intro a hK
        refine kl hK 114 rfl (by decide) rfl (fun ρ hρ => r_cn21_3 _ rfl (by omega) (hρ _ _ rfl)) ?_
        clear hK a; intro a hK
        refine kl hK 115 rfl (by decide) rfl (fun ρ hρ => r_mv _ rfl (hρ _ _ rfl)) ?_
        clear hK a; intro a hK
        refine kl hK 116 rfl (by decide) rfl (fun ρ hρ => r_len22 _ rfl (hρ _ _ rfl)) ?_
        clear hK a; intro a hK
        refine kl hK 117 rfl (by decide) rfl (fun ρ hρ => r_lss3 _ _ rfl (hρ _ _ rfl) (hρ _ _ rfl)) ?_
        clear hK a; intro a hK
        refine kl hK 118 rfl (by decide) rfl (fun ρ hρ => r_mv _ rfl (hρ _ _ rfl)) ?_
        clear hK a; intro a hK
        refine klg hK 119 6 118 rfl (by decide) rfl (by kernel_rfl) rfl (decide_eq_true (by omega)) (fun ρ hρ => r_mv _ rfl (hρ _ _ rfl)) ?_
        clear hK a; intro a hK
        refine klg hK 120 6 118 rfl (by decide) rfl (by kernel_rfl) rfl (decide_eq_true (by omega)) (fun ρ hρ => r_mv _ rfl (hρ _ _ rfl)) ?_
        clear hK a; intro a hK
        refine klg hK 121 6 118 rfl (by decide) rfl (by kernel_rfl) rfl (decide_eq_true (by omega)) (fun ρ hρ => r_dec21 _ rfl (by omega) (by omega) (hρ _ _ rfl) (hρ _ _ rfl)) ?_
        clear hK a; intro a hK
        refine klg hK 122 6 118 rfl (by decide) rfl (by kernel_rfl) rfl (decide_eq_true (by omega)) (fun ρ hρ => r_ix22p _ _ rfl ha hlt (hρ _ _ rfl) (hρ _ _ rfl)) ?_
        clear hK a; intro a hK
        refine klg hK 123 6 118 rfl (by decide) rfl (by kernel_rfl) rfl (decide_eq_true (by omega)) (fun ρ hρ => r_fa29_3 _ rfl (hρ _ _ rfl)) ?_
        clear hK a; intro a hK
        refine klg hK 124 6 118 rfl (by decide) rfl (by kernel_rfl) rfl (decide_eq_true (by omega)) (fun ρ hρ => r_ld21 _ rfl (hρ _ _ rfl) c3) ?_
        clear hK a; intro a hK
        refine klg hK 125 6 118 rfl (by decide) rfl (by kernel_rfl) rfl (decide_eq_true (by omega)) (fun ρ hρ => r_geq21 _ _ rfl (hρ _ _ rfl) (hρ _ _ rfl)) ?_
        clear hK a; intro a hK
        refine kl hK 126 rfl (by decide) rfl (fun ρ hρ => r_pickT _ _ _ rfl (decide_eq_true (by omega)) (hρ _ _ rfl) (hρ _ _ rfl)) ?_
        clear hK a; intro a hK
        refine wpList_nil ?_
        show Code.wp Yba.prog _ _ _ _
        refine wp_cond_false (by rw [hK.rho (.tmp 126) _ rfl]; exact congrArg Value.bool (decide_eq_false h0)) ?_
        refine wp_skip ?_
        show Code.wp Yba.prog _ _ _ _
        refine wp_region_lit ?_
        refine kl hK 106 rfl (by decide) rfl (fun ρ hρ => r_mv _ rfl (hρ _ _ rfl)) ?_
        clear hK a; intro a hK
        refine kl hK 107 rfl (by decide) rfl (fun ρ hρ => r_inc21 _ rfl (by omega) (hρ _ _ rfl) (hρ _ _ rfl)) ?_
        clear hK a; intro a hK
        refine kl hK 23 rfl (by decide) rfl (fun ρ hρ => r_as _ rfl (hρ _ _ rfl)) ?_
        clear hK a; intro a hK
        refine wpList_nil ?_
        exact hR (I.N - (p + 1)) _ _ (by omega) ⟨p + 1, by omega, hpl, rfl, hK.sub ⟨rfl, rfl, rfl, rfl, rfl, rfl, rfl, rfl, rfl, rfl, rfl, rfl, rfl, trivial⟩, hb1, hskip hcd⟩
    · have hcd : ¬ I.cond p := fun h => hlt h.2.1
      refine wp_region_lit ?_
      refine kl hK 112 rfl (by decide) rfl (fun ρ hρ => r_mv _ rfl (hρ _ _ rfl)) ?_
      clear hK a; intro a hK
      refine kl hK 113 rfl (by decide) rfl (fun ρ hρ => r_dec21 _ rfl (by omega) (by omega) (hρ _ _ rfl) (hρ _ _ rfl)) ?_
      clear hK a; intro a hK
      refine kl hK 114 rfl (by decide) rfl (fun ρ hρ => r_cn21_3 _ rfl (by omega) (hρ _ _ rfl)) ?_
      clear hK a; intro a hK
      refine kl hK 115 rfl (by decide) rfl (fun ρ hρ => r_mv _ rfl (hρ _ _ rfl)) ?_
      clear hK a; intro a hK
      refine kl hK 116 rfl (by decide) rfl (fun ρ hρ => r_len22 _ rfl (hρ _ _ rfl)) ?_
      clear hK a; intro a hK
      refine kl hK 117 rfl (by decide) rfl (fun ρ hρ => r_lss3 _ _ rfl (hρ _ _ rfl) (hρ _ _ rfl)) ?_
      clear hK a; intro a hK
      refine kl hK 118 rfl (by decide) rfl (fun ρ hρ => r_mv _ rfl (hρ _ _ rfl)) ?_
      clear hK a; intro a hK
      refine klu hK 119 6 118 rfl (by decide) rfl (by kernel_rfl) rfl (decide_eq_false (by omega)) ?_
      clear hK a; intro a hK
      refine klu hK 120 6 118 rfl (by decide) rfl (by kernel_rfl) rfl (decide_eq_false (by omega)) ?_
      clear hK a; intro a hK
      refine klu hK 121 6 118 rfl (by decide) rfl (by kernel_rfl) rfl (decide_eq_false (by omega)) ?_
      clear hK a; intro a hK
      refine klu hK 122 6 118 rfl (by decide) rfl (by kernel_rfl) rfl (decide_eq_false (by omega)) ?_
      clear hK a; intro a hK
      refine klu hK 123 6 118 rfl (by decide) rfl (by kernel_rfl) rfl (decide_eq_false (by omega)) ?_
      clear hK a; intro a hK
      refine klu hK 124 6 118 rfl (by decide) rfl (by kernel_rfl) rfl (decide_eq_false (by omega)) ?_
      clear hK a; intro a hK
      refine klu hK 125 6 118 rfl (by decide) rfl (by kernel_rfl) rfl (decide_eq_false (by omega)) ?_
      clear hK a; intro a hK
      refine kl hK 126 rfl (by decide) rfl (fun ρ hρ => r_pickE _ _ _ rfl (decide_eq_false (by omega)) (hρ _ _ rfl) (hρ _ _ rfl)) ?_
      clear hK a; intro a hK
      refine wpList_nil ?_
      show Code.wp Yba.prog _ _ _ _
      refine wp_cond_false (hK.rho (.tmp 126) _ rfl) ?_
      refine wp_skip ?_
      show Code.wp Yba.prog _ _ _ _
      refine wp_region_lit ?_
      refine kl hK 106 rfl (by decide) rfl (fun ρ hρ => r_mv _ rfl (hρ _ _ rfl)) ?_
      clear hK a; intro a hK
      refine kl hK 107 rfl (by decide) rfl (fun ρ hρ => r_inc21 _ rfl (by omega) (hρ _ _ rfl) (hρ _ _ rfl)) ?_
      clear hK a; intro a hK
      refine kl hK 23 rfl (by decide) rfl (fun ρ hρ => r_as _ rfl (hρ _ _ rfl)) ?_
      clear hK a; intro a hK
      refine wpList_nil ?_
      exact hR (I.N - (p + 1)) _ _ (by omega) ⟨p + 1, by omega, hpl, rfl, hK.sub ⟨rfl, rfl, rfl, rfl, rfl, rfl, rfl, rfl, rfl, rfl, rfl, rfl, rfl, trivial⟩, hb1, hskip hcd⟩
  · have hle : p = I.N := by omega
    refine wp_cond_false (by rw [hK.rho (.tmp 105) _ rfl]; exact congrArg Value.bool (decide_eq_false (by omega))) ?_
    refine wp_exit ?_
    subst hle
    exact hKK _ _ (hK.sub ⟨rfl, rfl, rfl, rfl, rfl, rfl, rfl, rfl, rfl, rfl, rfl, rfl, trivial⟩) hb hRow
end Go.Proofs.Ybulkexuo
