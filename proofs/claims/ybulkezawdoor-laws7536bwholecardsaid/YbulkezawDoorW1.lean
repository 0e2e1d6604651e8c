import Derived.Test.YbulkezawDoorProg
import Derived.WalkKit
import Derived.WalkSpells
import Derived.WalkLawsBesides
import Derived.Deep.QuietTactic
import Derived.BigQuiet
import Derived.Deep.OwnRows
import Derived.Deep.RegionHeld3
import Derived.Laws.CopyRow
import Derived.Laws.BytesArg
import Derived.Laws.IdiomCopy
namespace Go.Proofs.YbulkezawDoor
open Go.RowKit

theorem info5 : (Ybad.prog.info? 5).map (fun i => (i.zero, i.size, i.bytes)) = some (some (.int .u8 0), 1, 1) := by kernel_rfl

/-- the bytes that came in behind one option -/
def IsData (w : World) (a : Option Addr) (l cap : Nat) (D : Nat → Int) : Prop :=
  (a = none → l = 0 ∧ cap = 0) ∧ (0 < l → ∃ b off, a = some ⟨b, off, none⟩ ∧ b < w.heap.size ∧ ∀ j, j < l → w.cell? ⟨b, off + j, none⟩ = some (.int .u8 (D j)))

theorem IsData.below {w w' : World} {a : Option Addr} {l cap : Nat} {D : Nat → Int} (h : IsData w a l cap D) (hb : Below w.heap.size w w') : IsData w' a l cap D := by
  refine ⟨h.1, fun hl => ?_⟩
  obtain ⟨b, off, e, hlt, hc⟩ := h.2 hl
  exact ⟨b, off, e, Nat.lt_of_lt_of_le hlt hb.size, fun j hj => (hb.cell (p := ⟨b, off + j, none⟩) hlt).trans (hc j hj)⟩

/-- a value of type []byte that the law itself has made: nil, or m bytes at the head of a block -/
def Bytes (w : World) (base : Nat) (v : Value) (nl : Bool) (m : Nat) (E : Nat → Int) : Prop :=
  (nl = true ∧ v = .slice none 0 0 ∧ m = 0) ∨ (nl = false ∧ ∃ g, v = .slice (some ⟨g, 0, none⟩) m m ∧ base ≤ g ∧ g < w.heap.size ∧ ∀ j, j < m → w.cell? ⟨g, j, none⟩ = some (.int .u8 (E j)))

theorem Bytes.below {w w' : World} {base : Nat} {v : Value} {nl : Bool} {m : Nat} {E : Nat → Int} (h : Bytes w base v nl m E) (hb : Below w.heap.size w w') : Bytes w' base v nl m E := by
  rcases h with h | ⟨h1, g, h2, h3, h4, h5⟩
  · exact Or.inl h
  · exact Or.inr ⟨h1, g, h2, h3, Nat.lt_of_lt_of_le h4 hb.size, fun j hj => (hb.cell (p := ⟨g, j, none⟩) h4).trans (h5 j hj)⟩

/-- what the law makes of an option's data -/
def dNil (a : Option Addr) (f : Bool) : Bool := !f && a.isNone
def dLen (l : Nat) (f : Bool) : Nat := if f then 4 else l
def dAt (l : Nat) (D : Nat → Int) (f : Bool) (j : Nat) : Int := if f && decide (l ≤ j) then 0 else D j

theorem mk4 (w : World) : (Instr.makeSlice 24 (.int .i64 4) (.int .i64 4)).run Ybad.prog w = .ok (.slice (some ⟨w.heap.size, 0, none⟩) 4 4) (w.alloc (.cells #[.int .u8 0, .int .u8 0, .int .u8 0, .int .u8 0] 5)) := by kernel_rfl

theorem mk0 (w : World) : (Instr.makeSlice 24 (.int .i64 0) (.int .i64 0)).run Ybad.prog w = .ok (.slice (some ⟨w.heap.size, 0, none⟩) 0 0) (w.alloc (.cells #[] 5)) := by kernel_rfl

def four (D : Nat → Int) (k j : Nat) : Value := if j < k then .int .u8 (D j) else .int .u8 0

theorem four0 (w : World) (D : Nat → Int) : (w.alloc (.cells #[.int .u8 0, .int .u8 0, .int .u8 0, .int .u8 0] 5)).rowIs w.heap.size 5 4 (four D 0) :=
  ⟨_, Go.Deep.blk_alloc_new _ _, rfl, fun i hi => by
    match i, hi with
    | 0, _ => rfl
    | 1, _ => rfl
    | 2, _ => rfl
    | 3, _ => rfl⟩

theorem cell_setOther (w : World) (p q : Addr) (v : Value) (h : q.block ≠ p.block) : (w.setCell p v).cell? q = w.cell? q :=
  World.cell?_of_block (w := w) (Below.heap_setCell w p v q.block h)

theorem four_step {w : World} {B : Nat} {D : Nat → Int} {k : Nat} (h : w.rowIs B 5 4 (four D k)) : (w.setCell ⟨B, k, none⟩ (.int .u8 (D k))).rowIs B 5 4 (four D (k + 1)) := by
  refine (h.set k _).congr fun i hi => ?_
  unfold four
  by_cases e : i = k
  · subst e; simp
  · rw [if_neg e]
    by_cases h3 : i < k
    · rw [if_pos h3, if_pos (by omega)]
    · rw [if_neg h3, if_neg (by omega)]

theorem four_cells {w : World} {B l k : Nat} {D : Nat → Int} (h : w.rowIs B 5 4 (four D k)) (hkl : k ≤ l) (he : k = 4 ∨ l ≤ k) : ∀ j, j < 4 → w.cell? ⟨B, j, none⟩ = some (.int .u8 (dAt l D true j)) := by
  intro j hj
  rw [h.cell hj]
  unfold four dAt
  by_cases h1 : j < k
  · rw [if_pos h1]; simp; omega
  · rw [if_neg h1]
    have : l ≤ j := by omega
    simp [this]

set_option maxHeartbeats 1000000 in
theorem data_four (c : Int) (a : Option Addr) (l cap : Nat) (D : Nat → Int) (w : World) (hl : l ≤ 140737488355328) (hD : IsData w a l cap D) :
    Calls Ybad.prog 8 #[.agg #[.int .u8 c, .slice a l cap, .bool true]] w fun e w' =>
      ∃ v, e = .returned v ∧ Bytes w' w.heap.size v (dNil a true) (dLen l true) (dAt l D true) ∧ Below w.heap.size w w' := by
  have hmk := mk4
  go_enter Ybad.func8, Ybad.ntmps8
  go_wp2_with fail
  have hrow0 := four0 (w.alloc (.cells #[.int .u8 c, .slice a l cap, .bool true] 26)) D
  have hbox0 : ((w.alloc (.cells #[.int .u8 c, .slice a l cap, .bool true] 26)).alloc (.cells #[.int .u8 0, .int .u8 0, .int .u8 0, .int .u8 0] 5)).cell? ⟨w.heap.size, 1, none⟩ = some (.slice a l cap) := by simp
  simp only [World.size_alloc] at hrow0
  go_loopw [4] (fun i wr => ∃ k : Nat, k ≤ 4 ∧ k ≤ l ∧ i = .int .i64 k ∧ wr.rowIs (w.heap.size + 1) 5 4 (four D k) ∧ wr.cell? ⟨w.heap.size, 1, none⟩ = some (.slice a l cap) ∧ Below w.heap.size w wr) (fun i _ => 4 - (intOf i).toNat)
  case atStart => exact ⟨0, by omega, by omega, rfl, hrow0, hbox0, ((Below.refl _ _).alloc (Nat.le_refl _) _).alloc (by simp) _⟩
  case round =>
    obtain ⟨k, hk4, hkl, rfl, hrow, hbox, hbel⟩ := hrel
    clear hrow0 hbox0
    by_cases h4 : k < 4
    · by_cases hlt : k < l
      · obtain ⟨b, off, rfl, hblt, hcell⟩ := hD.2 (by omega)
        have c1 := (hbel.cell (p := ⟨b, off + k, none⟩) hblt).trans (hcell k hlt)
        have d1 := hrow.cell (i := k) (by omega)
        have f1 := hrow.frozen k
        have hs := four_step hrow
        have hbox2 : (wr.setCell ⟨w.heap.size + 1, k, none⟩ (.int .u8 (D k))).cell? ⟨w.heap.size, 1, none⟩ = some (.slice (some ⟨b, off, none⟩) l cap) := by
          rw [cell_setOther _ _ _ _ (by simp)]; exact hbox
        go_wp2_with fail
        go_roundw
        case rel => exact ⟨k + 1, by omega, by omega, by go_num, hs, hbox2, hbel.setCell (by simp) _⟩
        case measure => simp [intOf]; omega
      · have hcs := four_cells hrow (l := l) hkl (Or.inr (by omega))
        have hlt' : w.heap.size + 1 < wr.heap.size := hrow.lt
        go_wp2_with fail
        go_ret
        exact ⟨_, rfl, Or.inr ⟨rfl, _, rfl, by omega, hlt', hcs⟩, hbel⟩
    · have hcs := four_cells hrow (l := l) hkl (Or.inl (by omega))
      have hlt' : w.heap.size + 1 < wr.heap.size := hrow.lt
      go_wp2_with fail
      go_ret
      exact ⟨_, rfl, Or.inr ⟨rfl, _, rfl, by omega, hlt', hcs⟩, hbel⟩

set_option maxHeartbeats 1000000 in
theorem data_nil (c : Int) (D : Nat → Int) (w : World) :
    Calls Ybad.prog 8 #[.agg #[.int .u8 c, .slice none 0 0, .bool false]] w fun e w' =>
      ∃ v, e = .returned v ∧ Bytes w' w.heap.size v true 0 D ∧ Below w.heap.size w w' := by
  have hnil := fun w => Lib.run_eql_slice_nil (P := Ybad.prog) w 24 5 none 0 0 0 0 Ybad.underlying24
  go_enter Ybad.func8, Ybad.ntmps8
  go_wp2_with fail
  go_ret
  exact ⟨_, rfl, Or.inl ⟨rfl, rfl, rfl⟩, (Below.refl _ _).alloc (Nat.le_refl _) _⟩

/-- the bytes are copied into a new row -/
theorem copy_bytes {W : World} {b off l cap : Nat} {D : Nat → Int} (hb : b < W.heap.size) (hc : ∀ j, j < l → W.cell? ⟨b, off + j, none⟩ = some (.int .u8 (D j))) :
    ∃ W2, (∀ ty, (Builtin.copy_ #[24, 24] ty #[.slice (some ⟨W.heap.size, 0, none⟩) l l, .slice (some ⟨b, off, none⟩) l cap]).run Ybad.prog (W.alloc (.cells (madeCells #[.int .u8 0] l) 5)) = .ok (goInt l) W2) ∧
      W2.rowIs W.heap.size 5 l (fun j => .int .u8 (D j)) ∧ Below W.heap.size W W2 := by
  have hnew := Go.Deep.blk_alloc_new W (.cells (madeCells #[.int .u8 0] l) 5)
  have hcl : ((List.range l).map fun j => Value.int .u8 (D j)).length = Nat.min l l := by simp
  have hrun := fun ty => run_copy_row Ybad.prog (W.alloc (.cells (madeCells #[.int .u8 0] l) 5)) 24 24 ty 5 W.heap.size 0 l l ⟨b, off, none⟩ l cap _ 5 ((List.range l).map fun j => Value.int .u8 (D j)) Ybad.underlying24 (by kernel_rfl) hnew hcl (fun j v hv => by
      have hj : j < l := by
        by_cases h : j < l
        · exact h
        · rw [List.getElem?_eq_none (by simp; omega)] at hv; cases hv
      simp [hj] at hv
      subst hv
      have hadd : (⟨b, off, none⟩ : Addr).add j = ⟨b, off + j, none⟩ := by unfold Addr.add; split <;> simp_all
      rw [hadd, World.cell?_alloc_past _ _ _ hb]
      exact hc j hj) (by simp [size_madeCells]) (fun v hv => by
      obtain ⟨j, _, rfl⟩ := List.mem_map.1 hv
      rfl)
  simp only [List.length_map, List.length_range] at hrun
  refine ⟨_, hrun, ⟨_, setRow_heap _ _ _ _ 5 _ hnew, ?_, fun i hi => ?_⟩, ?_⟩
  · simp [size_madeCells]
  · have hd : (madeCells #[Value.int IntKind.u8 0] l).toList.drop (0 + l) = [] := by
      apply List.drop_eq_nil_of_le; simp [size_madeCells]
    rw [hd]
    simp [hi]
  · exact ((Below.refl _ _).alloc (Nat.le_refl _) _).trans ⟨rfl, rfl, rfl, by simp [World.setRow], fun k hk => setRow_other _ _ _ _ (by omega)⟩

set_option maxHeartbeats 1000000 in
theorem data_copy (c : Int) (b off l cap : Nat) (D : Nat → Int) (w : World) (hl : l ≤ 140737488355328) (hb : b < w.heap.size) (hc : ∀ j, j < l → w.cell? ⟨b, off + j, none⟩ = some (.int .u8 (D j))) :
    Calls Ybad.prog 8 #[.agg #[.int .u8 c, .slice (some ⟨b, off, none⟩) l cap, .bool false]] w fun e w' =>
      ∃ v, e = .returned v ∧ Bytes w' w.heap.size v false l D ∧ Below w.heap.size w w' := by
  have hnil := fun w => Lib.run_eql_slice_nil (P := Ybad.prog) w 24 5 (some ⟨b, off, none⟩) l cap 0 0 Ybad.underlying24
  have hmk := run_make_row' (P := Ybad.prog) 24 5 (.int .u8 0) 1 Ybad.underlying24 info5 rfl .i64 .i64 l (by omega) (by omega)
  obtain ⟨W2, hcp, hrow, hbel⟩ := copy_bytes (W := w.alloc (.cells #[.int .u8 c, .slice (some ⟨b, off, none⟩) l cap, .bool false] 26)) (cap := cap) (D := D) (show b < _ by simp; omega) (fun j hj => by rw [World.cell?_alloc_past _ _ _ hb]; exact hc j hj)
  simp only [World.size_alloc] at hcp hrow hbel
  go_enter Ybad.func8, Ybad.ntmps8
  go_wp2_with fail
  go_ret
  exact ⟨_, rfl, Or.inr ⟨rfl, _, rfl, by omega, hrow.lt, fun j hj => hrow.cell hj⟩, ((Below.refl _ _).alloc (Nat.le_refl _) _).trans (hbel.mono (by omega))⟩

set_option maxHeartbeats 1000000 in
theorem data_empty (c : Int) (x : Addr) (cap : Nat) (D : Nat → Int) (w : World) :
    Calls Ybad.prog 8 #[.agg #[.int .u8 c, .slice (some x) 0 cap, .bool false]] w fun e w' =>
      ∃ v, e = .returned v ∧ Bytes w' w.heap.size v false 0 D ∧ Below w.heap.size w w' := by
  have hnil := fun w => Lib.run_eql_slice_nil (P := Ybad.prog) w 24 5 (some x) 0 cap 0 0 Ybad.underlying24
  have hmk := mk0
  have hcp := fun w d ty => run_copy_none (P := Ybad.prog) w 24 24 ty 5 (some d) (some x) 0 0 0 cap Ybad.underlying24 (by kernel_rfl) rfl
  go_enter Ybad.func8, Ybad.ntmps8
  go_wp2_with fail
  go_ret
  exact ⟨_, rfl, Or.inr ⟨rfl, _, rfl, by omega, by simp, fun j hj => by omega⟩, ((Below.refl _ _).alloc (Nat.le_refl _) _).alloc (by simp) _⟩

theorem data_any (c : Int) (a : Option Addr) (l cap : Nat) (f : Bool) (D : Nat → Int) (w : World) (hl : l ≤ 140737488355328) (hD : IsData w a l cap D) :
    Calls Ybad.prog 8 #[.agg #[.int .u8 c, .slice a l cap, .bool f]] w fun e w' =>
      ∃ v, e = .returned v ∧ Bytes w' w.heap.size v (dNil a f) (dLen l f) (dAt l D f) ∧ Below w.heap.size w w' := by
  cases f with
  | true => exact data_four c a l cap D w hl hD
  | false =>
    have e : dAt l D false = D := by funext j; simp [dAt]
    rw [e]
    cases a with
    | none =>
      obtain ⟨rfl, rfl⟩ := hD.1 rfl
      exact data_nil c D w
    | some x =>
      by_cases h0 : 0 < l
      · obtain ⟨b, off, he, hb, hc⟩ := hD.2 h0
        cases he
        exact data_copy c b off l cap D w hl hb hc
      · obtain rfl : l = 0 := by omega
        exact data_empty c x cap D w
end Go.Proofs.YbulkezawDoor
