import Derived.Test.YbulkezawC1
import Derived.Laws.StructEq
import Derived.Laws.Pointers
namespace Go.Proofs.Ybulkezaw
open Go.RowKit

theorem zero_any (w : World) : Calls Yba.prog 6 #[tm 0 0] w fun e w' => e = .returned (.bool true) ∧ ∃ c1 : Array Value, w' = w.alloc (.cells c1 26) := by
  go_enter Yba.func6, Yba.ntmps6
  go_wp2_with fail
  go_ret
  exact ⟨rfl, _, rfl⟩

set_option maxHeartbeats 1000000 in
theorem spe_zero (b c : Nat) (w : World) (hbl : b < w.heap.size) (hcl : c < w.heap.size) (hc0 : w.cell? ⟨b, 0, none⟩ = some (.pointer (some ⟨c, 0, none⟩))) (hsp : w.cell? ⟨c, 18, none⟩ = some (.int .u32 0)) :
    Calls Yba.prog 5 #[.pointer (some ⟨b, 0, none⟩)] w fun e w' => e = .returned (tm 0 0) ∧ Below w.heap.size w w' := by
  go_enter Yba.func5, Yba.ntmps5
  go_wp2_with fail
  exact bodyPost_ret (v := tm 0 0) (by simp [results, Yba.results5, go_sem, tm]) rfl ⟨rfl, (Below.refl _ _).alloc (Nat.le_refl _) _⟩

theorem wrap_sp {sp : Int} (p0 : 0 < sp) (p1 : sp ≤ 4294967295) : IntKind.i64.wrap (IntKind.i64.wrap sp * 1000000000) = sp * 1000000000 := by
  have e : IntKind.i64.wrap sp = sp := by rw [IntKind.wrap_i64]; omega
  rw [e, IntKind.wrap_i64]; omega

set_option maxHeartbeats 1000000 in
theorem spe_some (b c : Nat) (sp ns sc : Int) (w : World) (hbl : b < w.heap.size) (hcl : c < w.heap.size) (h0 : 0 ≤ ns) (h1 : ns < 1000000000) (s0 : -100000000000 ≤ sc) (s1 : sc ≤ 100000000000) (p0 : 0 < sp) (p1 : sp ≤ 4294967295)
    (hc0 : w.cell? ⟨b, 0, none⟩ = some (.pointer (some ⟨c, 0, none⟩))) (hsp : w.cell? ⟨c, 18, none⟩ = some (.int .u32 sp))
    (he0 : w.cell? ⟨b, 18, none⟩ = some (.int .u64 ns)) (he1 : w.cell? ⟨b, 19, none⟩ = some (.int .i64 sc)) (he2 : w.cell? ⟨b, 20, none⟩ = some (.pointer none)) :
    Calls Yba.prog 5 #[.pointer (some ⟨b, 0, none⟩)] w fun e w' => e = .returned (tm ((ns + sp * 1000000000) % 1000000000) (sc + (ns + sp * 1000000000) / 1000000000)) ∧ Below w.heap.size w w' := by
  have hz : (sp == 0) = false := by simp; omega
  go_enter Yba.func5, Yba.ntmps5
  go_wp2_with fail
  generalize hW : w.alloc (Obj.cells #[Value.int IntKind.u64 0, Value.int IntKind.i64 0, Value.pointer none] 26) = W
  have r0 : W.cell? ⟨b, 0, none⟩ = some (.pointer (some ⟨c, 0, none⟩)) := by rw [← hW, World.cell?_alloc_past _ _ _ hbl]; exact hc0
  have r1 : W.cell? ⟨c, 18, none⟩ = some (.int .u32 sp) := by rw [← hW, World.cell?_alloc_past _ _ _ hcl]; exact hsp
  have r2 : W.cell? ⟨b, 18, none⟩ = some (.int .u64 ns) := by rw [← hW, World.cell?_alloc_past _ _ _ hbl]; exact he0
  have r3 : W.cell? ⟨b, 19, none⟩ = some (.int .i64 sc) := by rw [← hW, World.cell?_alloc_past _ _ _ hbl]; exact he1
  have r4 : W.cell? ⟨b, 20, none⟩ = some (.pointer none) := by rw [← hW, World.cell?_alloc_past _ _ _ hbl]; exact he2
  have z0 : W.cell? ⟨w.heap.size, 0, none⟩ = some (.int .u64 0) := by rw [← hW]; simp
  have z1 : W.cell? ⟨w.heap.size, 1, none⟩ = some (.int .i64 0) := by rw [← hW]; simp
  have z2 : W.cell? ⟨w.heap.size, 2, none⟩ = some (.pointer none) := by rw [← hW]; simp
  have f0 : W.frozen? ⟨w.heap.size, 0, none⟩ = false := by rw [← hW]; simp
  have f1 : W.frozen? ⟨w.heap.size, 1, none⟩ = false := by rw [← hW]; simp
  have f2 : W.frozen? ⟨w.heap.size, 2, none⟩ = false := by rw [← hW]; simp
  have hsz : W.heap.size = w.heap.size + 1 := by rw [← hW]; simp
  have hbW : b < W.heap.size := by omega
  have hcW : c < W.heap.size := by omega
  have hnW : w.heap.size < W.heap.size := by omega
  have Hbel : Hid (Below w.heap.size w W) := by rw [← hW]; exact (Below.refl _ _).alloc (Nat.le_refl _) _
  have HZ : Hid (W.heap.size = w.heap.size + 1) := hsz
  clear hW hc0 hsp he0 he1 he2 hsz
  have hwr : Hid (IntKind.i64.wrap (IntKind.i64.wrap sp * 1000000000) = sp * 1000000000) := wrap_sp p0 p1
  go_region_held3 (fun w' => w'.cell? ⟨b, 0, none⟩ = some (.pointer (some ⟨c, 0, none⟩)) ∧ w'.cell? ⟨c, 18, none⟩ = some (.int .u32 sp) ∧ w'.cell? ⟨b, 18, none⟩ = some (.int .u64 ns) ∧ w'.cell? ⟨b, 19, none⟩ = some (.int .i64 sc) ∧ w'.cell? ⟨b, 20, none⟩ = some (.pointer none)) (simp [go_sem, r0, r1, r2, r3, r4, hbW, hcW])
    (first
      | (go_at_call 4; rw [hwr.out]; refine (add_any ns sc (sp * 1000000000) _ h0 h1 s0 s1 (by omega) (by omega)).mono ?_; rintro e w' ⟨rfl, o1, o2, rfl⟩))
  go_wp2_with fail
  refine bodyPost_ret (v := tm ((ns + sp * 1000000000) % 1000000000) (sc + (ns + sp * 1000000000) / 1000000000)) (by simp [results, Yba.results5, go_sem, tm, hnW, z0, z1, z2]) rfl ⟨rfl, ?_⟩
  exact Below.drew (Below.alloc (Below.alloc (((Hbel.out.setCell (Nat.le_refl _) _).setCell (Nat.le_refl _) _).setCell (Nat.le_refl _) _) (by simp [World.setCell]; omega) _) (by simp [World.setCell]; omega) _)

theorem eql26 (a b c d : Int) (w : World) : (binOp .eql 26 (tm a b) (tm c d)).run Yba.prog w = .ok (.bool (a == c && b == d)) w := by
  have u23 := Yba.underlying23
  have u2 := Yba.underlying2
  have hpn : ∀ w, (Op.equalIn 9999 24 (.pointer none) (.pointer none)).run Yba.prog w = .ok true w := fun w => run_equalIn_pointer_nil w 9998 24 none (by kernel_rfl)
  have hS : Yba.prog.underlying 26 = some (.struct (Yba.prog.fieldsOf 26)) := by kernel_rfl
  have hp : Yba.prog.stoodInHeld 26 = false := by kernel_rfl
  rw [run_eql_struct, show (10000 : Nat) = 9999 + 1 from rfl, run_equalIn_agg w 9999 26 _ _ hS hp]
  simp only [Program.fieldsOf, Yba.underlying26]
  go_simp
  by_cases h1 : a = c <;> by_cases h2 : b = d <;> simp [h1, h2]

theorem neq26 (a b c d : Int) (w : World) : (binOp .neq 26 (tm a b) (tm c d)).run Yba.prog w = .ok (.bool (!(a == c && b == d))) w := by
  have u23 := Yba.underlying23
  have u2 := Yba.underlying2
  have hpn : ∀ w, (Op.equalIn 9999 24 (.pointer none) (.pointer none)).run Yba.prog w = .ok true w := fun w => run_equalIn_pointer_nil w 9998 24 none (by kernel_rfl)
  have hS : Yba.prog.underlying 26 = some (.struct (Yba.prog.fieldsOf 26)) := by kernel_rfl
  have hp : Yba.prog.stoodInHeld 26 = false := by kernel_rfl
  rw [run_neq_struct, show (10000 : Nat) = 9999 + 1 from rfl, run_equalIn_agg w 9999 26 _ _ hS hp]
  simp only [Program.fieldsOf, Yba.underlying26]
  go_simp
  by_cases h1 : a = c <;> by_cases h2 : b = d <;> simp [h1, h2]
end Go.Proofs.Ybulkezaw
