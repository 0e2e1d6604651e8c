import Derived.Test.YbulkezawDoorW5
import Derived.Laws.StructEq
import Derived.LaidEqlPtr
namespace Go.Proofs.YbulkezawDoor
open Go.RowKit

theorem eq_ptr_same {P : Program} (w : World) {tp te : TypeId} (a : Option Addr) (hp : P.underlying tp = some (.pointer te)) (hte : (P.info? te).isSome = true) (d : Nat) :
    (Op.equalIn (d + 1) tp (.pointer a) (.pointer a)).run P w = .ok true w := by
  obtain ⟨j, hj⟩ := Option.isSome_iff_exists.1 hte
  cases a with
  | none => simp [Op.equalIn, run_underlying hp]
  | some a => simp [Op.equalIn, run_underlying hp, sizeOf, typeInfo, hj, run_sameAddr_same]

theorem neq_adr (hi lo : Int) (z : Option Addr) (w : World) : (binOp .neq 38 (adr hi lo z) (adr hi lo z)).run Ybad.prog w = .ok (.bool false) w := by
  have hz : ∀ w, (Op.equalIn 9998 34 (.pointer z) (.pointer z)).run Ybad.prog w = .ok true w := fun w => eq_ptr_same w z Ybad.underlying34 (by kernel_rfl) 9997
  have u31 := Ybad.underlying31
  have hS : Ybad.prog.underlying 38 = some (.struct (Ybad.prog.fieldsOf 38)) := by kernel_rfl
  have hp : Ybad.prog.stoodInHeld 38 = false := by kernel_rfl
  have hS1 : Ybad.prog.underlying 33 = some (.struct (Ybad.prog.fieldsOf 33)) := by kernel_rfl
  have hp1 : Ybad.prog.stoodInHeld 33 = false := by kernel_rfl
  have hS2 : Ybad.prog.underlying 36 = some (.struct (Ybad.prog.fieldsOf 36)) := by kernel_rfl
  have hp2 : Ybad.prog.stoodInHeld 36 = false := by kernel_rfl
  have e1 : ∀ w, (Op.equalIn 9999 33 (.agg #[.int .u64 hi, .int .u64 lo]) (.agg #[.int .u64 hi, .int .u64 lo])).run Ybad.prog w = .ok true w := fun w => by
    rw [show (9999 : Nat) = 9998 + 1 from rfl, run_equalIn_agg w 9998 33 _ _ hS1 hp1]
    simp only [Program.fieldsOf, Ybad.underlying33]
    go_simp
  have e2 : ∀ w, (Op.equalIn 9999 36 (.agg #[.pointer z]) (.agg #[.pointer z])).run Ybad.prog w = .ok true w := fun w => by
    rw [show (9999 : Nat) = 9998 + 1 from rfl, run_equalIn_agg w 9998 36 _ _ hS2 hp2]
    simp only [Program.fieldsOf, Ybad.underlying36]
    go_simp
  rw [run_neq_struct, show (10000 : Nat) = 9999 + 1 from rfl, run_equalIn_agg w 9999 38 _ _ hS hp]
  simp only [Program.fieldsOf, Ybad.underlying38]
  go_simp
end Go.Proofs.YbulkezawDoor
