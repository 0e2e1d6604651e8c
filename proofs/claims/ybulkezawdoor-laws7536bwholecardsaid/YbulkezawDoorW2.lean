import Derived.Test.YbulkezawDoorW1
namespace Go.Proofs.YbulkezawDoor
open Go.RowKit

/-- one option that came in -/
structure Opt where
  c : Int
  a : Option Addr
  l : Nat
  cap : Nat
  f : Bool
  D : Nat → Int
def Opt.nl (o : Opt) : Bool := dNil o.a o.f
def Opt.m (o : Opt) : Nat := dLen o.l o.f
def Opt.E (o : Opt) : Nat → Int := dAt o.l o.D o.f

/-- n options lie at block b from off on -/
def IsOpts (w : World) (b off n : Nat) (o : Nat → Opt) : Prop :=
  ∀ i, i < n → w.cell? ⟨b, off + i * 3, none⟩ = some (.int .u8 (o i).c) ∧ w.cell? ⟨b, off + i * 3 + 1, none⟩ = some (.slice (o i).a (o i).l (o i).cap) ∧
    w.cell? ⟨b, off + i * 3 + 2, none⟩ = some (.bool (o i).f) ∧ IsData w (o i).a (o i).l (o i).cap (o i).D ∧ (o i).l ≤ 140737488355328

theorem IsOpts.below {w w' : World} {b off n : Nat} {o : Nat → Opt} (h : IsOpts w b off n o) (hlt : b < w.heap.size) (hb : Below w.heap.size w w') : IsOpts w' b off n o := by
  intro i hi
  obtain ⟨h1, h2, h3, h4, h5⟩ := h i hi
  exact ⟨(hb.cell (p := ⟨b, off + i * 3, none⟩) hlt).trans h1, (hb.cell (p := ⟨b, off + i * 3 + 1, none⟩) hlt).trans h2, (hb.cell (p := ⟨b, off + i * 3 + 2, none⟩) hlt).trans h3, h4.below hb, h5⟩

theorem IsData.drew {w : World} {a : Option Addr} {l cap : Nat} {D : Nat → Int} (h : IsData w a l cap D) : IsData w.drew a l cap D := h
theorem Bytes.mono {w : World} {base base' : Nat} {v : Value} {nl : Bool} {m : Nat} {E : Nat → Int} (h : Bytes w base v nl m E) (hb : base' ≤ base) : Bytes w base' v nl m E := by
  rcases h with h | ⟨h1, g, h2, h3, h4⟩
  · exact Or.inl h
  · exact Or.inr ⟨h1, g, h2, by omega, h4⟩
theorem Bytes.setCell {w : World} {base : Nat} {v : Value} {nl : Bool} {m : Nat} {E : Nat → Int} (h : Bytes w base v nl m E) (p : Addr) (hp : p.block < base) (x : Value) : Bytes (w.setCell p x) base v nl m E := by
  rcases h with h | ⟨h1, g, h2, h3, h4, h5⟩
  · exact Or.inl h
  · exact Or.inr ⟨h1, g, h2, h3, by simpa [World.setCell] using h4, fun j hj => by rw [cell_setOther _ _ _ _ (by show g ≠ p.block; omega)]; exact h5 j hj⟩

theorem Bytes.shape {w : World} {base : Nat} {v : Value} {nl : Bool} {m : Nat} {E : Nat → Int} (h : Bytes w base v nl m E) : ∃ a l c, v = .slice a l c := by
  rcases h with ⟨_, h, _⟩ | ⟨_, g, h, _⟩
  · exact ⟨_, _, _, h⟩
  · exact ⟨_, _, _, h⟩

/-- the row of Options, k of them filled -/
def lst (o : Nat → Opt) (V : Nat → Value) (k j : Nat) : Value :=
  if j / 2 < k then (if j % 2 = 0 then .int .u8 (o (j / 2)).c else V (j / 2)) else (if j % 2 = 0 then .int .u8 0 else .slice none 0 0)

theorem lst_zero (o : Nat → Opt) (V : Nat → Value) (n i : Nat) (hi : i < n * 2) : (madeCells #[.int .u8 0, .slice none 0 0] (n * 2))[i]? = some (lst o V 0 i) := by
  simp [madeCells, hi, lst]
  have : i % 2 = 0 ∨ i % 2 = 1 := by omega
  rcases this with h | h <;> simp [h]

theorem lst_row0 (w : World) (n : Nat) (o : Nat → Opt) (V : Nat → Value) : (w.alloc (Obj.cells (madeCells #[.int .u8 0, .slice none 0 0] (n * 2)) 46)).rowIs w.heap.size 46 (n * 2) (lst o V 0) :=
  ⟨_, Go.Deep.blk_alloc_new _ _, size_madeCells _ _, fun i hi => lst_zero o V n i hi⟩

theorem lst_step {w : World} {B n : Nat} {o : Nat → Opt} {V : Nat → Value} {k : Nat} {v : Value} (h : w.rowIs B 46 (n * 2) (lst o V k)) :
    ((w.setCell ⟨B, k * 2, none⟩ (.int .u8 (o k).c)).setCell ⟨B, k * 2 + 1, none⟩ v).rowIs B 46 (n * 2) (lst o (fun i => if i = k then v else V i) (k + 1)) := by
  refine ((h.set (k * 2) (.int .u8 (o k).c)).set (k * 2 + 1) v).congr fun i hi => ?_
  by_cases e1 : i = k * 2 + 1
  · subst e1
    simp [lst, show (k * 2 + 1) / 2 = k by omega, show (k * 2 + 1) % 2 = 1 by omega]
  · by_cases e2 : i = k * 2
    · subst e2
      simp [lst]
    · simp only [e1, e2, if_false]
      unfold lst
      by_cases h3 : i / 2 < k
      · rw [if_pos h3, if_pos (show i / 2 < k + 1 by omega)]
        dsimp only
        rw [if_neg (show ¬ i / 2 = k by omega)]
      · rw [if_neg h3, if_neg (show ¬ i / 2 < k + 1 by omega)]

theorem lst_even (o : Nat → Opt) (V : Nat → Value) {n k : Nat} (hk : k < n) : lst o V n (k * 2) = .int .u8 (o k).c := by simp [lst, hk]
theorem lst_odd (o : Nat → Opt) (V : Nat → Value) {n k : Nat} (hk : k < n) : lst o V n (k * 2 + 1) = V k := by simp [lst, show (k * 2 + 1) / 2 = k by omega, hk]

/-- a list of Options that the law itself has made -/
def Built (w : World) (base : Nat) (v : Value) (n : Nat) (o : Nat → Opt) : Prop :=
  ∃ (g : Nat) (V : Nat → Value), v = .slice (some ⟨g, 0, none⟩) n n ∧ base ≤ g ∧ g < w.heap.size ∧
    ∀ i, i < n → w.cell? ⟨g, i * 2, none⟩ = some (.int .u8 (o i).c) ∧ w.cell? ⟨g, i * 2 + 1, none⟩ = some (V i) ∧ Bytes w base (V i) (o i).nl (o i).m (o i).E

theorem info46 : (Ybad.prog.info? 46).map (fun i => (i.zero, i.size, i.bytes)) = some (some (.agg #[.int .u8 0, .slice none 0 0]), 2, 32) := by kernel_rfl

theorem run_makeK {P : Program} (t e : TypeId) (zs : Array Value) (K bytes : Nat) (ht : P.underlying t = some (.slice e)) (hinfo : (P.info? e).map (fun i => (i.zero, i.size, i.bytes)) = some (some (.agg zs), K, bytes))
    (n : Nat) (hbytes : bytes * n ≤ 281474976710656) (h63 : n ≤ 9223372036854775807) (w : World) :
    (Instr.makeSlice t (.int .i64 (n : Int)) (.int .i64 (n : Int))).run P w = .ok (.slice (some ⟨w.heap.size, 0, none⟩) n n) (w.alloc (.cells (madeCells zs (n * K)) e)) := by
  obtain ⟨i, hi, hzz⟩ := Option.map_eq_some_iff.1 hinfo
  simp only [Prod.mk.injEq] at hzz
  obtain ⟨hz, hs, hb⟩ := hzz
  have hb' : (i.bytes : Int) * (n : Int) ≤ 281474976710656 := by
    have h : ((i.bytes * n : Nat) : Int) ≤ 281474976710656 := by rw [hb]; omega
    rwa [Int.natCast_mul] at h
  have hr := run_make (P := P) w t e i _ ht hi hz .i64 .i64 n n (by omega) (Int.le_refl _) hb' (by omega)
  simp only [Int.toNat_natCast, hs, Value.cells] at hr
  exact hr

set_option maxHeartbeats 1000000 in
theorem build_some (b off n cap : Nat) (o : Nat → Opt) (w : World) (hn : n ≤ 4398046511104) (hn0 : 0 < n) (hb : b < w.heap.size) (hO : IsOpts w b off n o) :
    Calls Ybad.prog 4 #[.slice (some ⟨b, off, none⟩) n cap] w fun e w' => ∃ v, e = .returned v ∧ Built w' w.heap.size v n o ∧ Below w.heap.size w w' := by
  have hnil := fun w => Lib.run_eql_slice_nil (P := Ybad.prog) w 22 26 (some ⟨b, off, none⟩) n cap 0 0 Ybad.underlying22
  have hmk := run_makeK (P := Ybad.prog) 28 46 _ 2 32 Ybad.underlying28 info46 n (by omega) (by omega)
  have hrow0 := lst_row0 w n o (fun _ => .slice none 0 0)
  go_enter Ybad.func4, Ybad.ntmps4
  go_wp2_with fail
  go_loopw [4] (fun i wr => ∃ (k : Nat) (V : Nat → Value), k ≤ n ∧ i = .int .i64 k ∧ wr.rowIs w.heap.size 46 (n * 2) (lst o V k) ∧ (∀ i, i < k → Bytes wr (w.heap.size + 1) (V i) (o i).nl (o i).m (o i).E) ∧ Below w.heap.size w wr) (fun i _ => n - (intOf i).toNat)
  case atStart => exact ⟨0, _, by omega, rfl, hrow0, fun i hi => by omega, (Below.refl _ _).alloc (Nat.le_refl _) _⟩
  case round =>
    obtain ⟨k, V, hk, rfl, hrow, hV, hbel⟩ := hrel
    clear hrow0
    by_cases hlt : k < n
    · obtain ⟨g1, g2, g3, g4, g5⟩ := hO k hlt
      have c1 := (hbel.cell (p := ⟨b, off + k * 3, none⟩) hb).trans g1
      have c2 := (hbel.cell (p := ⟨b, off + k * 3 + 1, none⟩) hb).trans g2
      have c3 := (hbel.cell (p := ⟨b, off + k * 3 + 2, none⟩) hb).trans g3
      have hI : (k : Int) < (n : Int) := by omega
      go_wp2_with fail
      have hDr := (g4.below hbel).drew
      have hsz := hbel.size
      have hNlt : w.heap.size < wr.heap.size := hrow.lt
      have d1 := hrow.cell (i := k * 2) (by omega)
      have d2 := hrow.cell (i := k * 2 + 1) (by omega)
      have f1 := hrow.frozen (k * 2)
      have f2 := hrow.frozen (k * 2 + 1)
      have hfar : ∀ (W : World) (i j p : Nat) (x y : Value), ((W.setCell ⟨w.heap.size, i, none⟩ x).setCell ⟨w.heap.size, j, none⟩ y).cell? ⟨b, p, none⟩ = W.cell? ⟨b, p, none⟩ := fun W i j p x y => by
        rw [cell_setOther _ _ _ _ (by show b ≠ w.heap.size; omega), cell_setOther _ _ _ _ (by show b ≠ w.heap.size; omega)]
      go_region_held3 (fun w' => w'.cell? ⟨b, off + k * 3, none⟩ = some (.int .u8 (o k).c) ∧ w'.cell? ⟨b, off + k * 3 + 1, none⟩ = some (.slice (o k).a (o k).l (o k).cap) ∧ w'.cell? ⟨b, off + k * 3 + 2, none⟩ = some (.bool (o k).f)) (first | exact ⟨c1, c2, c3⟩ | (simp [*]))
        (first
          | (go_at_call 8; refine (data_any (o k).c (o k).a (o k).l (o k).cap (o k).f (o k).D _ g5 hDr).mono ?_; rintro e w1 ⟨v, rfl, hB, hb1⟩; obtain ⟨va, vl, vc, rfl⟩ := hB.shape; have q1 := (hb1.cell (p := ⟨b, off + k * 3, none⟩) (Nat.lt_of_lt_of_le hb hsz)).trans c1; have q2 := (hb1.cell (p := ⟨b, off + k * 3 + 1, none⟩) (Nat.lt_of_lt_of_le hb hsz)).trans c2; have q3 := (hb1.cell (p := ⟨b, off + k * 3 + 2, none⟩) (Nat.lt_of_lt_of_le hb hsz)).trans c3; have e1 := (hb1.cell (p := ⟨w.heap.size, k * 2, none⟩) hNlt).trans d1; have e2 := (hb1.cell (p := ⟨w.heap.size, k * 2 + 1, none⟩) hNlt).trans d2; have e3 := (hb1.frozen (p := ⟨w.heap.size, k * 2, none⟩) hNlt).trans f1; have e4 := (hb1.frozen (p := ⟨w.heap.size, k * 2 + 1, none⟩) hNlt).trans f2))
      have hb1w : Below wr.heap.size wr w1 := (Below.drew (Below.refl wr.heap.size wr)).trans hb1
      have hrow1 : w1.rowIs w.heap.size 46 (n * 2) (lst o V k) := hrow.of_block (hb1.block _ hNlt)
      have hrow2 := lst_step (v := .slice va vl vc) hrow1
      have hB2 : ∀ i, i < k + 1 → Bytes ((w1.setCell ⟨w.heap.size, k * 2, none⟩ (.int .u8 (o k).c)).setCell ⟨w.heap.size, k * 2 + 1, none⟩ (.slice va vl vc)) (w.heap.size + 1) (if i = k then .slice va vl vc else V i) (o i).nl (o i).m (o i).E := fun i hi => by
        refine Bytes.setCell (Bytes.setCell ?_ _ (by simp) _) _ (by simp) _
        by_cases e : i = k
        · subst e
          rw [if_pos rfl]
          exact hB.mono (by show w.heap.size + 1 ≤ wr.heap.size; omega)
        · rw [if_neg e]
          exact (hV i (by omega)).below hb1w
      have hbel2 : Below w.heap.size w w1 := hbel.trans (hb1w.mono hsz)
      clear hfar d1 d2 f1 f2 c1 c2 c3 q1 q2 q3 e1 e2 e3 e4 hrow hrow1 hV hB hDr
      go_wp2_with fail
      go_roundw
      case rel => exact ⟨k + 1, _, by omega, by go_num, hrow2, hB2, (hbel2.setCell (Nat.le_refl _) _).setCell (Nat.le_refl _) _⟩
      case measure => simp [intOf]; omega
    · obtain rfl : n = k := by omega
      have hNlt := hrow.lt
      have hfin : Built wr w.heap.size (.slice (some ⟨w.heap.size, 0, none⟩) n n) n o := ⟨w.heap.size, V, rfl, Nat.le_refl _, hNlt, fun i hi => ⟨by
        rw [hrow.cell (i := i * 2) (by omega), lst_even o V hi], by rw [hrow.cell (i := i * 2 + 1) (by omega), lst_odd o V hi], (hV i hi).mono (by omega)⟩⟩
      go_wp2_with fail
      go_ret
      exact ⟨_, rfl, hfin, hbel⟩

set_option maxHeartbeats 1000000 in
theorem build_nil (w : World) :
    Calls Ybad.prog 4 #[.slice none 0 0] w fun e w' => e = .returned (.slice none 0 0) ∧ w' = w := by
  have hnil := fun w => Lib.run_eql_slice_nil (P := Ybad.prog) w 22 26 none 0 0 0 0 Ybad.underlying22
  go_enter Ybad.func4, Ybad.ntmps4
  go_wp2_with fail
  go_ret
  exact ⟨rfl, rfl⟩

theorem mk28 (w : World) : (Instr.makeSlice 28 (.int .i64 0) (.int .i64 0)).run Ybad.prog w = .ok (.slice (some ⟨w.heap.size, 0, none⟩) 0 0) (w.alloc (.cells #[] 46)) := by kernel_rfl

set_option maxHeartbeats 1000000 in
theorem build_empty (x : Addr) (cap : Nat) (w : World) :
    Calls Ybad.prog 4 #[.slice (some x) 0 cap] w fun e w' => e = .returned (.slice (some ⟨w.heap.size, 0, none⟩) 0 0) ∧ w' = w.alloc (.cells #[] 46) := by
  have hnil := fun w => Lib.run_eql_slice_nil (P := Ybad.prog) w 22 26 (some x) 0 cap 0 0 Ybad.underlying22
  have hmk := mk28
  go_enter Ybad.func4, Ybad.ntmps4
  go_wp2_with fail
  refine wp_loop_rounds 1 ?_; rw [rounds_succ]
  go_wp2_with fail
  go_ret
  exact ⟨rfl, rfl⟩
end Go.Proofs.YbulkezawDoor
