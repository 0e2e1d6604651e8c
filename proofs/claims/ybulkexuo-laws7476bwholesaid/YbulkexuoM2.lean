import Derived.Test.YbulkexuoM1
namespace Go.Proofs.Ybulkexuo
open Go.RowKit

theorem pow20 {q : Nat} (h : q < 20) : 2 ^ q ≤ 524288 := Nat.le_trans (Nat.pow_le_pow_right (by omega) (show q ≤ 19 by omega)) (by decide)
theorem low_bits {m q : Nat} (hm : m < 4294967296) (hq : q < 20) : bits .and .u64 (m : Int) (IntKind.u64.wrap (IntKind.u64.wrap (2 ^ q) - 1)) = ((m % 2 ^ q : Nat) : Int) := by
  have hp := pow20 hq
  have h0 : 0 < 2 ^ q := Nat.pos_of_ne_zero (by simp)
  have e : ((2 : Int) ^ q) = ((2 ^ q : Nat) : Int) := by simp
  rw [e]
  have e1 : IntKind.u64.wrap ((2 ^ q : Nat) : Int) = ((2 ^ q : Nat) : Int) := by rw [IntKind.wrap_u64]; omega
  have e2 : IntKind.u64.wrap (((2 ^ q : Nat) : Int) - 1) = ((2 ^ q - 1 : Nat) : Int) := by rw [IntKind.wrap_u64]; omega
  rw [e1, e2, bits_and_u64_nat _ _ (by omega) (by omega), Nat.and_two_pow_sub_one_eq_mod]

theorem bel_drewN {N : Nat} {w w' : World} (h : Below N w w') (q : Nat) : Below N w (w'.drewN q) := ⟨h.os, h.tape, h.output, h.size, h.block⟩

/-- level l's counts lie there -/
def CntAt (D : PD) (w : World) (l : Nat) (A : Option Addr) : Prop := ∀ k, k < D.nc l → ∃ b off, A = some ⟨b, off, none⟩ ∧ b < w.heap.size ∧ w.cell? ⟨b, off + k, none⟩ = some (.int .i32 (D.C l k))
theorem CntAt.below {D : PD} {w w' : World} {l : Nat} {A : Option Addr} (h : CntAt D w l A) (hb : Below w.heap.size w w') : CntAt D w' l A := fun k hk => by
  obtain ⟨b, off, e, h1, h2⟩ := h k hk
  exact ⟨b, off, e, Nat.lt_of_lt_of_le h1 hb.size, (World.cell?_of_block (a := ⟨b, off + k, none⟩) (hb.block b h1)).trans h2⟩

set_option maxHeartbeats 1000000 in
theorem cnt_any (D : PD) (hD : D.Fine) (l q : Nat) (hl : l < D.ll) (hq : q < 20) (A : Option Addr) (c : Nat) (w : World) (hC : CntAt D w l A) :
    Calls Yba.prog 24 #[.agg #[.int .u32 (D.mask l), .slice A (D.nc l) c], .int .i32 q] w fun e w' => e = .returned (.int .i32 (D.cnt l q)) ∧ Below w.heap.size w w' := by
  have hm := hD.mask l hl
  have hb := low_bits hm hq
  have hlow : D.mask l % 2 ^ q < 1048576 := by
    have := Nat.mod_lt (D.mask l) (show 0 < 2 ^ q from Nat.pos_of_ne_zero (by simp))
    have := pow20 hq
    omega
  have hrk : rk (D.mask l % 2 ^ q) 20 = rk (D.mask l) q := by
    have h1 := rk_high (x := D.mask l % 2 ^ q) (q := q) (Nat.mod_lt _ (Nat.pos_of_ne_zero (by simp))) (20 - q)
    rw [show q + (20 - q) = 20 by omega] at h1
    rw [h1, rk_mod _ _ _ (Nat.le_refl q)]
  have hO := fun w => ones_any (D.mask l % 2 ^ q) w hlow
  rw [hrk] at hO
  have hrkl := rk_le (D.mask l) q
  have Hc : Hid (∀ z, (if D.nc l = 0 then 1 else D.C l (rk (D.mask l) q % D.nc l)) = z → D.cnt l q = z) := fun z h => h
  have Hn : Hid (D.nc l ≤ 140737488355328) := hD.nc l hl
  generalize hn : D.nc l = nc at *
  generalize rk (D.mask l) q = r at *
  go_enter Yba.func24, Yba.ntmps24
  by_cases h0 : nc = 0
  · subst h0
    have hz := Hc.out 1 (if_pos rfl)
    clear hC
    go_wp2_with (refine (hO _).mono ?_; rintro e w' ⟨rfl, rfl⟩)
    go_ret
    exact ⟨by rw [hz]; rfl, (Below.refl _ _).alloc (Nat.le_refl _) _⟩
  · have hlt := Nat.mod_lt r (show 0 < nc by omega)
    have hz := Hc.out _ (if_neg h0)
    obtain ⟨b, off, rfl, hb1, hc1⟩ := hC (r % nc) (by omega)
    have h0' : ¬ (nc : Int) = 0 := by omega
    obtain ⟨k, hk⟩ : ∃ k, k = r % nc := ⟨_, rfl⟩
    rw [← hk] at hlt hz hc1
    have hmod : (r : Int) % (nc : Int) = (k : Int) := by rw [hk]; rfl
    have hmod' : (r : Int).tmod (nc : Int) = (k : Int) := by rw [Int.tmod_eq_emod_of_nonneg (by omega)]; exact hmod
    have hkI : (k : Int) < nc := by omega
    have hn2 := Hn.out
    clear hk
    go_wp2_with (refine (hO _).mono ?_; rintro e w' ⟨rfl, rfl⟩)
    go_quiet (fail)
    go_wp2_with fail
    go_ret
    exact ⟨by rw [hz]; rfl, bel_drewN ((Below.refl _ _).alloc (Nat.le_refl _) _) _⟩

/-- the levels of the input lie there -/
def LvAt (D : PD) (w : World) (a : Option Addr) (A : Nat → Option Addr) (cc : Nat → Nat) : Prop :=
  ∀ l, l < D.ll → (∃ b off, a = some ⟨b, off, none⟩ ∧ b < w.heap.size ∧ w.cell? ⟨b, off + l * 2, none⟩ = some (.int .u32 (D.mask l)) ∧ w.cell? ⟨b, off + l * 2 + 1, none⟩ = some (.slice (A l) (D.nc l) (cc l))) ∧ CntAt D w l (A l)
theorem LvAt.below {D : PD} {w w' : World} {a : Option Addr} {A : Nat → Option Addr} {cc : Nat → Nat} (h : LvAt D w a A cc) (hb : Below w.heap.size w w') : LvAt D w' a A cc := fun l hl => by
  obtain ⟨⟨b, off, e, h1, h2, h3⟩, h4⟩ := h l hl
  exact ⟨⟨b, off, e, Nat.lt_of_lt_of_le h1 hb.size, (World.cell?_of_block (a := ⟨b, off + l * 2, none⟩) (hb.block b h1)).trans h2, (World.cell?_of_block (a := ⟨b, off + l * 2 + 1, none⟩) (hb.block b h1)).trans h3⟩, h4.below hb⟩
/-- a row of hand-offs -/
def HandAt (D : PD) (w : World) (b : Nat) : Prop := ∀ p, p < D.N → w.cell? ⟨b, p * 4, none⟩ = some (.int .i32 (D.hto p)) ∧ w.cell? ⟨b, p * 4 + 1, none⟩ = some (.int .i32 (D.hpos p)) ∧ w.cell? ⟨b, p * 4 + 2, none⟩ = some (.int .i32 (D.hcnt p)) ∧ w.cell? ⟨b, p * 4 + 3, none⟩ = some (.int .i32 (D.hat p))
theorem HandAt.below {D : PD} {w w' : World} {b : Nat} (h : HandAt D w b) (hlt : b < w.heap.size) (hb : Below w.heap.size w w') : HandAt D w' b := fun p hp => by
  obtain ⟨h1, h2, h3, h4⟩ := h p hp
  have e := hb.block b hlt
  exact ⟨(World.cell?_of_block (a := ⟨b, p * 4, none⟩) e).trans h1, (World.cell?_of_block (a := ⟨b, p * 4 + 1, none⟩) e).trans h2, (World.cell?_of_block (a := ⟨b, p * 4 + 2, none⟩) e).trans h3, (World.cell?_of_block (a := ⟨b, p * 4 + 3, none⟩) e).trans h4⟩
/-- the law's model -/
structure MV (D : PD) (w : World) (mB : Nat) : Prop where
  lt : mB < w.heap.size
  lv : ∃ a c A cc, w.cell? ⟨mB, 0, none⟩ = some (.slice a D.ll c) ∧ LvAt D w a A cc
  hand : ∃ b c, w.cell? ⟨mB, 1, none⟩ = some (.slice (some ⟨b, 0, none⟩) D.N c) ∧ b < w.heap.size ∧ HandAt D w b
  c2 : w.cell? ⟨mB, 2, none⟩ = some (.int .i32 D.asp)
  c3 : w.cell? ⟨mB, 3, none⟩ = some (.int .i32 D.asc)
  c4 : w.cell? ⟨mB, 4, none⟩ = some (.int .i32 D.aAt)
  c5 : w.cell? ⟨mB, 5, none⟩ = some (.int .i32 D.gsp)
  c6 : w.cell? ⟨mB, 6, none⟩ = some (.int .i32 D.gsc)
  c7 : w.cell? ⟨mB, 7, none⟩ = some (.int .i32 D.N)
theorem MV.below {D : PD} {w w' : World} {mB : Nat} (h : MV D w mB) (hb : Below w.heap.size w w') : MV D w' mB := by
  have C : ∀ o, w'.cell? ⟨mB, o, none⟩ = w.cell? ⟨mB, o, none⟩ := fun o => World.cell?_of_block (a := ⟨mB, o, none⟩) (hb.block mB h.lt)
  obtain ⟨a, c, A, cc, h1, h2⟩ := h.lv
  obtain ⟨b, c', h3, h4, h5⟩ := h.hand
  exact ⟨Nat.lt_of_lt_of_le h.lt hb.size, ⟨a, c, A, cc, (C 0).trans h1, h2.below hb⟩, ⟨b, c', (C 1).trans h3, Nat.lt_of_lt_of_le h4 hb.size, h5.below h4 hb⟩, (C 2).trans h.c2, (C 3).trans h.c3, (C 4).trans h.c4, (C 5).trans h.c5, (C 6).trans h.c6, (C 7).trans h.c7⟩
end Go.Proofs.Ybulkexuo
