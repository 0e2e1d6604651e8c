import Derived.Test.YbulkexuoCLaw
import Derived.Laws.IdiomCopy
namespace Go.Proofs.Ybulkexuo
open Go.RowKit

theorem run_copy_noneK {P : Program} (w : World) (dT sT ty elem : TypeId) (K : Nat) (d : Addr) (s : Option Addr) (hu : P.underlying dT = some (.slice elem)) (hs : (P.info? elem).map (·.size) = some K) :
    (Builtin.copy_ #[dT, sT] ty #[.slice (some d) 0 0, .slice s 0 0]).run P w = .ok (goInt 0) w := by
  cases hq : P.info? elem with
  | none => simp [hq] at hs
  | some i =>
    cases s with
    | none => simp [Builtin.copy_, run_underlying hu, Builtin.lenOf, Builtin.firstCells, sizeOf, typeInfo, hq, storeCells]
    | some a => simp [Builtin.copy_, run_underlying hu, Builtin.lenOf, Builtin.firstCells, sizeOf, typeInfo, hq, storeCells, loadCells, loadCellsFrom]

theorem mk0 (w : World) : (Instr.makeSlice 31 (.int .i64 0) (.int .i64 0)).run Yba.prog w = .ok (.slice (some ⟨w.heap.size, 0, none⟩) 0 0) (w.alloc (.cells #[] 38)) := by
  have h := run_makeK (P := Yba.prog) 31 38 _ 2 8 Yba.underlying31 info38 0 (by omega) (by omega) w
  rw [show madeCells #[Value.int IntKind.i32 0, Value.int IntKind.i32 0] (0 * 2) = #[] by simp [madeCells]] at h
  exact h

set_option maxHeartbeats 1000000 in
theorem law_nil (base p : Int) (w : World) (hbase : -2147483648 ≤ base ∧ base ≤ 2147483647) :
    Calls Yba.prog 4 #[.int .i32 base, .slice none 0 0, .int .i32 p] w fun e w' =>
      e = .returned (.bool true) ∧ Below w.heap.size w w' := by
  have hnil := fun w => run_neq_slice_nil_any (P := Yba.prog) w 75 77 none 0 0 0 0 Yba.underlying75
  have hcp := fun w d ty => run_copy_noneK (P := Yba.prog) w 31 31 ty 38 2 d none Yba.underlying31 (by kernel_rfl)
  have hmk := mk0
  go_enter Yba.func4, Yba.ntmps4
  go_wp2_with fail
  refine wp_loop_rounds 1 ?_; rw [rounds_succ]
  go_wp2_with fail
  refine wp_loop_rounds 1 ?_; rw [rounds_succ]
  go_wp2_with fail
  refine (find_short none 0 0 (fun _ => 0) (fun _ => 0) p _ (by omega) (fun h => by omega) (fun i j _ h => by omega)).mono ?_
  rintro e W3 ⟨rfl, hbel3⟩
  simp only [fnd]
  go_wp2_with fail
  refine wp_loop_rounds 1 ?_; rw [rounds_succ]
  go_wp2_with fail
  go_ret
  exact ⟨rfl, ((Below.refl _ _).alloc (Nat.le_refl _) _).trans (hbel3.mono (by simp))⟩

set_option maxHeartbeats 1000000 in
theorem law_empty (base p : Int) (x : Addr) (c : Nat) (w : World) (hbase : -2147483648 ≤ base ∧ base ≤ 2147483647) :
    Calls Yba.prog 4 #[.int .i32 base, .slice (some x) 0 c, .int .i32 p] w fun e w' =>
      e = .returned (.bool true) ∧ Below w.heap.size w w' := by
  have hnil := fun w => run_neq_slice_nil_any (P := Yba.prog) w 75 77 (some x) 0 c 0 0 Yba.underlying75
  have hcp := fun w d s ty => run_copy_noneK (P := Yba.prog) w 31 31 ty 38 2 d s Yba.underlying31 (by kernel_rfl)
  have hmk := mk0
  go_enter Yba.func4, Yba.ntmps4
  go_wp2_with fail
  refine wp_loop_rounds 1 ?_; rw [rounds_succ]
  go_wp2_with fail
  refine wp_loop_rounds 1 ?_; rw [rounds_succ]
  go_wp2_with fail
  refine (find_short _ 0 0 (fun _ => 0) (fun _ => 0) p _ (by omega) (fun h => by omega) (fun i j _ h => by omega)).mono ?_
  rintro e W3 ⟨rfl, hbel3⟩
  simp only [fnd]
  go_wp2_with fail
  refine wp_loop_rounds 1 ?_; rw [rounds_succ]
  go_wp2_with fail
  go_ret
  exact ⟨rfl, (((Below.refl _ _).alloc (Nat.le_refl _) _).alloc (by simp) _).trans (hbel3.mono (by simp only [World.size_alloc]; omega))⟩

set_option maxHeartbeats 1000000 in
theorem law_big (base p : Int) (a : Option Addr) (n c : Nat) (w : World) (hn : 1048576 < n) :
    Calls Yba.prog 4 #[.int .i32 base, .slice a n c, .int .i32 p] w fun e w' =>
      e = .returned (.bool true) ∧ Below w.heap.size w w' := by
  go_enter Yba.func4, Yba.ntmps4
  go_wp2_with fail
  go_ret
  exact ⟨rfl, Below.refl _ _⟩
end Go.Proofs.Ybulkexuo
