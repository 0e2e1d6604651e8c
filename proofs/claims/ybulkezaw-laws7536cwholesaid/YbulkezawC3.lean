import Derived.Test.YbulkezawC2
import Derived.LaidEqlPtr
import Derived.Deep.Heap
namespace Go.Proofs.Ybulkezaw
open Go.RowKit

/-- one operation that builds a struct out of parts, by its run -/
theorem wp_build {P : Program} {o : Oper} {a : Act} {w : World} {K : Act → World → Prop} {Q : Exit → Act → World → Prop} (t : TypeId) (parts : Array (Nat × Operand)) (ho : o.op = Op.build t parts) (ps : Array (Nat × Value)) (v : Value)
    (hp : (parts.map fun x => (x.1, a.eval x.2)) = ps) (hrun : (Instr.build t ps).run P w = .ok v w) (h : K (a.put o.dst v) w) : o.wp P a w K Q := by
  subst hp
  unfold Oper.wp
  simp only [execOp, ho, Sem.run_bind, Sem.run_pure, hrun, Result.andThen_ok]
  simpa [Oper.upon] using h

theorem cell_new (W : World) (cs : Array Value) (t : TypeId) (n i : Nat) (h : n = W.heap.size) : (W.alloc (.cells cs t)).cell? ⟨n, i, none⟩ = cs[i]? := by
  subst h
  simp only [World.cell?]
  rw [Go.Deep.blk_alloc_new]
  rfl
theorem neq_ptr_same {P : Program} (w : World) {tp te : TypeId} (a : Addr) (hp : P.underlying tp = some (.pointer te)) (hte : (P.info? te).isSome = true) :
    (binOp .neq tp (.pointer (some a)) (.pointer (some a))).run P w = .ok (.bool false) w := by
  obtain ⟨j, hj⟩ := Option.isSome_iff_exists.1 hte
  have h : ∀ d : Nat, (Op.equalIn (d + 1) tp (.pointer (some a)) (.pointer (some a))).run P w = .ok true w := fun d => by
    simp [Op.equalIn, run_underlying hp, sizeOf, typeInfo, hj, run_sameAddr_same]
  simp only [binOp]
  simp [Op.equal, Op.maxDepth, h 9999]
theorem below5 (w : World) (a b c d e : Obj) : Below w.heap.size w (((((w.alloc a).alloc b).alloc c).alloc d).alloc e) :=
  (((((Below.refl _ _).alloc (Nat.le_refl _) _).alloc (by simp) _).alloc (by simp only [World.size_alloc]; omega) _).alloc (by simp only [World.size_alloc]; omega) _).alloc (by simp only [World.size_alloc]; omega) _
theorem cell_old (W : World) (o : Obj) (n i : Nat) (h : n < W.heap.size) : (W.alloc o).cell? ⟨n, i, none⟩ = W.cell? ⟨n, i, none⟩ := World.cell?_alloc_past o n i h

set_option maxRecDepth 100000 in
/-- the Endpoint that the law builds: its cells that the walk will read -/
theorem build82 (p : Option Addr) (ns sc : Int) : ∃ cs : Array Value, (∀ w, (Instr.build 82 #[(0, .pointer p), (10, tm ns sc)]).run Yba.prog w = .ok (.agg cs) w) ∧
    cs[0]? = some (.pointer p) ∧ cs[18]? = some (.int .u64 ns) ∧ cs[19]? = some (.int .i64 sc) ∧ cs[20]? = some (.pointer none) :=
  ⟨((((match Yba.prog.info? 82 with
      | some i => (match i.zero with
        | some z => z.cells
        | none => #[])
      | none => #[]).setIfInBounds 0 (.pointer p)).setIfInBounds 18 (.int .u64 ns)).setIfInBounds 19 (.int .i64 sc)).setIfInBounds 20 (.pointer none),
    fun w => by kernel_rfl, by kernel_rfl, by kernel_rfl, by kernel_rfl, by kernel_rfl⟩

set_option maxRecDepth 100000 in
set_option maxHeartbeats 2000000 in
theorem law_some (sp en : Int) (w : World) (p0 : 0 < sp) (p1 : sp ≤ 4294967295) (e0 : -9223372036854775808 ≤ en) (e1 : en ≤ 9223372036854775807) :
    Calls Yba.prog 3 #[.int .u32 sp, .int .i64 en] w fun e w' => e = .returned (.bool true) ∧ Below w.heap.size w w' := by
  go_enter Yba.func3, Yba.ntmps3
  go_wp2_with fail
  refine (add_any 0 0 en _ (by omega) (by omega) (by omega) (by omega) e0 e1).mono ?_
  rintro e w1 ⟨rfl, o1, o2, rfl⟩
  simp only [Int.zero_add]
  generalize hns : en % 1000000000 = ns
  generalize hsc : en / 1000000000 = sc
  have n0 : 0 ≤ ns := by omega
  have n1 : ns < 1000000000 := by omega
  have s0 : -100000000000 ≤ sc := by omega
  have s1 : sc ≤ 100000000000 := by omega
  clear hns hsc
  go_wp2_with fail
  obtain ⟨cs, hbuild, k0, k18, k19, k20⟩ := build82 (some ⟨w.heap.size + 1 + 1 + 1, 0, none⟩) ns sc
  refine wp_build 82 _ rfl _ _ (by simp [Act.eval]) (hbuild _) ?_
  go_wp2_with fail
  refine (spe_some _ (w.heap.size + 1 + 1 + 1) sp ns sc _ (by simp) (by simp) n0 n1 s0 s1 p0 p1 ?_ ?_ ?_ ?_ ?_).mono ?_
  · rw [cell_new _ _ _ _ _ (by simp)]; exact k0
  · rw [cell_old _ _ _ _ (by simp), cell_new _ _ _ _ _ (by simp)]; rfl
  · rw [cell_new _ _ _ _ _ (by simp)]; exact k18
  · rw [cell_new _ _ _ _ _ (by simp)]; exact k19
  · rw [cell_new _ _ _ _ _ (by simp)]; exact k20
  rintro e W1 ⟨rfl, hb1⟩
  rw [show (ns + sp * 1000000000) % 1000000000 = ns by omega, show (ns + sp * 1000000000) / 1000000000 = sp by omega]
  have c0 : W1.cell? ⟨w.heap.size + 1 + 1 + 1 + 1, 0, none⟩ = some (.pointer (some ⟨w.heap.size + 1 + 1 + 1, 0, none⟩)) := by rw [hb1.cell (by simp), cell_new _ _ _ _ _ (by simp)]; exact k0
  have c1 : W1.cell? ⟨w.heap.size + 1 + 1 + 1, 18, none⟩ = some (.int .u32 sp) := by rw [hb1.cell (by simp), cell_old _ _ _ _ (by simp), cell_new _ _ _ _ _ (by simp)]; rfl
  have c2 : W1.cell? ⟨w.heap.size + 1 + 1 + 1 + 1, 18, none⟩ = some (.int .u64 ns) := by rw [hb1.cell (by simp), cell_new _ _ _ _ _ (by simp)]; exact k18
  have c3 : W1.cell? ⟨w.heap.size + 1 + 1 + 1 + 1, 19, none⟩ = some (.int .i64 sc) := by rw [hb1.cell (by simp), cell_new _ _ _ _ _ (by simp)]; exact k19
  have c4 : W1.cell? ⟨w.heap.size + 1 + 1 + 1 + 1, 20, none⟩ = some (.pointer none) := by rw [hb1.cell (by simp), cell_new _ _ _ _ _ (by simp)]; exact k20
  have c5 : W1.cell? ⟨w.heap.size + 1 + 1, 0, none⟩ = some (.int .u64 ns) := by rw [hb1.cell (by simp), cell_old _ _ _ _ (by simp), cell_old _ _ _ _ (by simp), cell_new _ _ _ _ _ (by simp)]; rfl
  have c6 : W1.cell? ⟨w.heap.size + 1 + 1, 1, none⟩ = some (.int .i64 sc) := by rw [hb1.cell (by simp), cell_old _ _ _ _ (by simp), cell_old _ _ _ _ (by simp), cell_new _ _ _ _ _ (by simp)]; rfl
  have c7 : W1.cell? ⟨w.heap.size + 1 + 1, 2, none⟩ = some (.pointer none) := by rw [hb1.cell (by simp), cell_old _ _ _ _ (by simp), cell_old _ _ _ _ (by simp), cell_new _ _ _ _ _ (by simp)]; rfl
  have hz1 : w.heap.size + 1 + 1 + 1 + 1 < W1.heap.size := by have := hb1.size; simp only [World.size_alloc] at this; omega
  have hbel : Hid (Below w.heap.size w W1) := (below5 _ _ _ _ _ _).trans (hb1.mono (by simp only [World.size_alloc]; omega))
  clear hb1 k0 k18 k19 k20 hbuild
  have hz2 : w.heap.size + 1 + 1 + 1 < W1.heap.size := by omega
  have hz3 : w.heap.size + 1 + 1 < W1.heap.size := by omega
  have hnp := fun w a => neq_ptr_same (P := Yba.prog) w (tp := 29) (te := 42) a Yba.underlying29 (by kernel_rfl)
  have hnt := neq26 ns sc ns sc
  simp only [beq_self_eq_true, Bool.and_true, Bool.not_true] at hnt
  have hspz : (sp == 0) = false := by simp; omega
  go_wp2_with fail
  go_quiet (fail)
  go_wp2_with fail
  refine (add_any ns sc (sp * 1000000000) _ n0 n1 s0 s1 (by omega) (by omega)).mono ?_
  rintro e W2 ⟨rfl, o3, o4, rfl⟩
  rw [show (ns + sp * 1000000000) % 1000000000 = ns by omega, show (ns + sp * 1000000000) / 1000000000 = sp by omega]
  have hy1 : w.heap.size + 1 + 1 < W1.heap.size + 1 := by omega
  have hy2 : w.heap.size + 1 + 1 < W1.heap.size + 1 + 1 := by omega
  have hy3 : w.heap.size + 1 + 1 < W1.heap.size + 1 + 1 + 1 := by omega
  have hnt2 := neq26 ns (sc + sp) ns (sc + sp)
  simp only [beq_self_eq_true, Bool.and_true, Bool.not_true] at hnt2
  go_wp2_with fail
  refine (sub_any ns (sc + sp) ns sc (sp * 1000000000) _ n0 n1 n0 n1 s0 s1 (by omega) (by omega) (by omega)).mono ?_
  rintro e W3 ⟨rfl, hb3⟩
  go_wp2_with fail
  go_ret
  refine ⟨rfl, Below.trans ?_ (hb3.mono ?_)⟩
  · repeat (first | exact hbel.out | refine below_drewN ?_ _ | refine Below.alloc ?_ (by first | omega | (simp only [World.size_alloc, World.heap_drewN]; omega)) _)
  · simp only [World.size_alloc, World.heap_drewN]; omega

set_option maxRecDepth 100000 in
set_option maxHeartbeats 2000000 in
theorem law_zero (en : Int) (w : World) (e0 : -9223372036854775808 ≤ en) (e1 : en ≤ 9223372036854775807) :
    Calls Yba.prog 3 #[.int .u32 0, .int .i64 en] w fun e w' => e = .returned (.bool true) ∧ Below w.heap.size w w' := by
  go_enter Yba.func3, Yba.ntmps3
  go_wp2_with fail
  refine (add_any 0 0 en _ (by omega) (by omega) (by omega) (by omega) e0 e1).mono ?_
  rintro e w1 ⟨rfl, o1, o2, rfl⟩
  simp only [Int.zero_add]
  generalize hns : en % 1000000000 = ns
  generalize hsc : en / 1000000000 = sc
  have n0 : 0 ≤ ns := by omega
  have n1 : ns < 1000000000 := by omega
  have s0 : -100000000000 ≤ sc := by omega
  have s1 : sc ≤ 100000000000 := by omega
  clear hns hsc
  go_wp2_with fail
  obtain ⟨cs, hbuild, k0, k18, k19, k20⟩ := build82 (some ⟨w.heap.size + 1 + 1 + 1, 0, none⟩) ns sc
  refine wp_build 82 _ rfl _ _ (by simp [Act.eval]) (hbuild _) ?_
  go_wp2_with fail
  refine (spe_zero _ (w.heap.size + 1 + 1 + 1) _ (by simp) (by simp) ?_ ?_).mono ?_
  · rw [cell_new _ _ _ _ _ (by simp)]; exact k0
  · rw [cell_old _ _ _ _ (by simp), cell_new _ _ _ _ _ (by simp)]; rfl
  rintro e W1 ⟨rfl, hb1⟩
  have c0 : W1.cell? ⟨w.heap.size + 1 + 1 + 1 + 1, 0, none⟩ = some (.pointer (some ⟨w.heap.size + 1 + 1 + 1, 0, none⟩)) := by rw [hb1.cell (by simp), cell_new _ _ _ _ _ (by simp)]; exact k0
  have c1 : W1.cell? ⟨w.heap.size + 1 + 1 + 1, 18, none⟩ = some (.int .u32 0) := by rw [hb1.cell (by simp), cell_old _ _ _ _ (by simp), cell_new _ _ _ _ _ (by simp)]; rfl
  have c2 : W1.cell? ⟨w.heap.size + 1 + 1 + 1 + 1, 18, none⟩ = some (.int .u64 ns) := by rw [hb1.cell (by simp), cell_new _ _ _ _ _ (by simp)]; exact k18
  have c3 : W1.cell? ⟨w.heap.size + 1 + 1 + 1 + 1, 19, none⟩ = some (.int .i64 sc) := by rw [hb1.cell (by simp), cell_new _ _ _ _ _ (by simp)]; exact k19
  have c4 : W1.cell? ⟨w.heap.size + 1 + 1 + 1 + 1, 20, none⟩ = some (.pointer none) := by rw [hb1.cell (by simp), cell_new _ _ _ _ _ (by simp)]; exact k20
  have c5 : W1.cell? ⟨w.heap.size + 1 + 1, 0, none⟩ = some (.int .u64 ns) := by rw [hb1.cell (by simp), cell_old _ _ _ _ (by simp), cell_old _ _ _ _ (by simp), cell_new _ _ _ _ _ (by simp)]; rfl
  have c6 : W1.cell? ⟨w.heap.size + 1 + 1, 1, none⟩ = some (.int .i64 sc) := by rw [hb1.cell (by simp), cell_old _ _ _ _ (by simp), cell_old _ _ _ _ (by simp), cell_new _ _ _ _ _ (by simp)]; rfl
  have c7 : W1.cell? ⟨w.heap.size + 1 + 1, 2, none⟩ = some (.pointer none) := by rw [hb1.cell (by simp), cell_old _ _ _ _ (by simp), cell_old _ _ _ _ (by simp), cell_new _ _ _ _ _ (by simp)]; rfl
  have hz1 : w.heap.size + 1 + 1 + 1 + 1 < W1.heap.size := by have := hb1.size; simp only [World.size_alloc] at this; omega
  have hbel : Hid (Below w.heap.size w W1) := (below5 _ _ _ _ _ _).trans (hb1.mono (by simp only [World.size_alloc]; omega))
  clear hb1 k0 k18 k19 k20 hbuild
  have hz2 : w.heap.size + 1 + 1 + 1 < W1.heap.size := by omega
  have hz3 : w.heap.size + 1 + 1 < W1.heap.size := by omega
  have hnp := fun w a => neq_ptr_same (P := Yba.prog) w (tp := 29) (te := 42) a Yba.underlying29 (by kernel_rfl)
  have hnt := neq26 ns sc ns sc
  simp only [beq_self_eq_true, Bool.and_true, Bool.not_true] at hnt
  have hez := eql26 0 0 0 0
  simp only [beq_self_eq_true, Bool.and_true] at hez
  go_wp2_with fail
  go_quiet (fail)
  go_wp2_with fail
  refine (zero_any _).mono ?_
  rintro e W2 ⟨rfl, o3, rfl⟩
  go_wp2_with fail
  go_ret
  refine ⟨rfl, ?_⟩
  repeat (first | exact hbel.out | refine below_drewN ?_ _ | refine Below.alloc ?_ (by first | omega | (simp only [World.size_alloc, World.heap_drewN]; omega)) _)
end Go.Proofs.Ybulkezaw
