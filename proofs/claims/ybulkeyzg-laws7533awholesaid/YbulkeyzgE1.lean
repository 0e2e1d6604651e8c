import Derived.Test.YbulkeyzgD13
namespace Go.Proofs.Ybulkeyzg
open Go.RowKit

/-! ### walks by hand: guarded operations, regions that only read -/
section
variable {P : Program} {ops : Array Oper} {C : World → Prop} {QA : Act → Prop} {Q : Exit → Act → World → Prop} {a : Act} {w w' : World} {o : Oper} {rest : List Oper} {v : Value}
theorem wanted_of {k g : Nat} (hg : o.guard = some (k, false)) (hk : (ops[k]?).bind (·.dst) = some g) (hv : a.tmps[g]? = some (.bool false)) : Region.wanted o (yielded ops a.tmps) = true := by
  unfold Region.wanted yielded
  rw [hg]
  simp only [hk, Option.bind_some, hv]
  rfl
theorem q_val (d : Nat) (hd : o.dst = some d) (hg : o.guard = none) (h : ∀ w', C w' → (execOp a.eval o).run P w' = .ok (.value v) w') (hk : wpQuiet P ops C QA rest (a.put (some d) v)) : wpQuiet P ops C QA (o :: rest) a :=
  BigFrame.wpQuiet_want (by simp [Region.wanted, hg]) fun K hK => ⟨v, fun w' hw' => by unfold Oper.quietAt; rw [h w' hw']; exact ⟨rfl, rfl⟩, hK _ (by rw [hd]; exact hk)⟩
theorem q_gval (d k g : Nat) (hd : o.dst = some d) (hg : o.guard = some (k, false)) (hk' : (ops[k]?).bind (·.dst) = some g) (hv : a.tmps[g]? = some (.bool false)) (h : ∀ w', C w' → (execOp a.eval o).run P w' = .ok (.value v) w') (hk : wpQuiet P ops C QA rest (a.put (some d) v)) : wpQuiet P ops C QA (o :: rest) a :=
  BigFrame.wpQuiet_want (wanted_of hg hk' hv) fun K hK => ⟨v, fun w' hw' => by unfold Oper.quietAt; rw [h w' hw']; exact ⟨rfl, rfl⟩, hK _ (by rw [hd]; exact hk)⟩
theorem l_gval (d k g : Nat) (hd : o.dst = some d) (hg : o.guard = some (k, false)) (hk' : (ops[k]?).bind (·.dst) = some g) (hv : a.tmps[g]? = some (.bool false)) (h : (execOp a.eval o).run P w = .ok (.value v) w') (hk : wpList P ops Q rest (a.put (some d) v) w') : wpList P ops Q (o :: rest) a w :=
  wpList_step fun K hK => by
    rw [if_pos (wanted_of hg hk' hv)]
    unfold Oper.wp
    rw [h]
    have : K (a.put o.dst v) w' := hK _ _ (by rw [hd]; exact hk)
    exact this
end

theorem neq_ptr_same {P : Program} (w : World) {tp te : TypeId} (a : Addr) (hp : P.underlying tp = some (.pointer te)) (hte : (P.info? te).isSome = true) :
    (binOp .neq tp (.pointer (some a)) (.pointer (some a))).run P w = .ok (.bool false) w := by
  obtain ⟨j, hj⟩ := Option.isSome_iff_exists.1 hte
  have h : ∀ d : Nat, (Op.equalIn (d + 1) tp (.pointer (some a)) (.pointer (some a))).run P w = .ok true w := fun d => by
    simp [Op.equalIn, run_underlying hp, sizeOf, typeInfo, hj, run_sameAddr_same]
  simp only [binOp]
  simp [Op.equal, Op.maxDepth, h 9999]
theorem neq_map_nil (w : World) : (binOp .neq 51 (.map none) (.map none)).run Yba.prog w = .ok (.bool false) w := by kernel_rfl
theorem len_map (w : World) (b : Nat) (es : Array MapEntry) (c : Nat) (ty : TypeId) (hb : w.heap[b]? = some (.map es c)) : (Builtin.len_ #[46] ty #[.map (some b)]).run Yba.prog w = .ok (.int .i64 es.size) w := by
  simp [Builtin.len_, run_underlying Yba.underlying46, MapKept.run_getObj_map hb, goInt, Result.andThen]

section
variable {ρ : Operand → Value} {o : Oper} {w : World}

theorem r_fo83_5 (x : Operand) (ho : o.op = .fieldAddr 83 x 5) {b : Nat} (h : ρ x = .pointer (some ⟨b, 0, none⟩)) : (execOp ρ o).run Yba.prog w = .ok (.value (.pointer (some ⟨b, 6, none⟩))) w := by
  have u := Yba.underlying83
  unfold execOp; rw [ho]; simp only; go_simp

theorem r_fo53_9 (x : Operand) (ho : o.op = .fieldAddr 53 x 9) {b : Nat} (h : ρ x = .pointer (some ⟨b, 0, none⟩)) : (execOp ρ o).run Yba.prog w = .ok (.value (.pointer (some ⟨b, 9, none⟩))) w := by
  have u := Yba.underlying53
  unfold execOp; rw [ho]; simp only; go_simp

theorem r_fo53_10 (x : Operand) (ho : o.op = .fieldAddr 53 x 10) {b : Nat} (h : ρ x = .pointer (some ⟨b, 0, none⟩)) : (execOp ρ o).run Yba.prog w = .ok (.value (.pointer (some ⟨b, 10, none⟩))) w := by
  have u := Yba.underlying53
  unfold execOp; rw [ho]; simp only; go_simp

theorem r_fo53_11 (x : Operand) (ho : o.op = .fieldAddr 53 x 11) {b : Nat} (h : ρ x = .pointer (some ⟨b, 0, none⟩)) : (execOp ρ o).run Yba.prog w = .ok (.value (.pointer (some ⟨b, 11, none⟩))) w := by
  have u := Yba.underlying53
  unfold execOp; rw [ho]; simp only; go_simp

theorem r_fo53_12 (x : Operand) (ho : o.op = .fieldAddr 53 x 12) {b : Nat} (h : ρ x = .pointer (some ⟨b, 0, none⟩)) : (execOp ρ o).run Yba.prog w = .ok (.value (.pointer (some ⟨b, 12, none⟩))) w := by
  have u := Yba.underlying53
  unfold execOp; rw [ho]; simp only; go_simp

theorem r_fo57_0 (x : Operand) (ho : o.op = .fieldAddr 57 x 0) {b : Nat} (h : ρ x = .pointer (some ⟨b, 0, none⟩)) : (execOp ρ o).run Yba.prog w = .ok (.value (.pointer (some ⟨b, 0, none⟩))) w := by
  have u := Yba.underlying57
  unfold execOp; rw [ho]; simp only; go_simp

theorem r_fo57_1 (x : Operand) (ho : o.op = .fieldAddr 57 x 1) {b : Nat} (h : ρ x = .pointer (some ⟨b, 0, none⟩)) : (execOp ρ o).run Yba.prog w = .ok (.value (.pointer (some ⟨b, 1, none⟩))) w := by
  have u := Yba.underlying57
  unfold execOp; rw [ho]; simp only; go_simp

theorem r_fo57_2 (x : Operand) (ho : o.op = .fieldAddr 57 x 2) {b : Nat} (h : ρ x = .pointer (some ⟨b, 0, none⟩)) : (execOp ρ o).run Yba.prog w = .ok (.value (.pointer (some ⟨b, 2, none⟩))) w := by
  have u := Yba.underlying57
  unfold execOp; rw [ho]; simp only; go_simp

theorem r_fo72_2 (x : Operand) (ho : o.op = .fieldAddr 72 x 2) {b : Nat} (h : ρ x = .pointer (some ⟨b, 0, none⟩)) : (execOp ρ o).run Yba.prog w = .ok (.value (.pointer (some ⟨b, 2, none⟩))) w := by
  have u := Yba.underlying72
  unfold execOp; rw [ho]; simp only; go_simp

theorem r_fo72_4 (x : Operand) (ho : o.op = .fieldAddr 72 x 4) {b : Nat} (h : ρ x = .pointer (some ⟨b, 0, none⟩)) : (execOp ρ o).run Yba.prog w = .ok (.value (.pointer (some ⟨b, 4, none⟩))) w := by
  have u := Yba.underlying72
  unfold execOp; rw [ho]; simp only; go_simp

theorem r_fo72_9 (x : Operand) (ho : o.op = .fieldAddr 72 x 9) {b : Nat} (h : ρ x = .pointer (some ⟨b, 0, none⟩)) : (execOp ρ o).run Yba.prog w = .ok (.value (.pointer (some ⟨b, 9, none⟩))) w := by
  have u := Yba.underlying72
  unfold execOp; rw [ho]; simp only; go_simp

theorem r_fo72_10 (x : Operand) (ho : o.op = .fieldAddr 72 x 10) {b : Nat} (h : ρ x = .pointer (some ⟨b, 0, none⟩)) : (execOp ρ o).run Yba.prog w = .ok (.value (.pointer (some ⟨b, 10, none⟩))) w := by
  have u := Yba.underlying72
  unfold execOp; rw [ho]; simp only; go_simp

theorem r_fo77_2 (x : Operand) (ho : o.op = .fieldAddr 77 x 2) {b : Nat} (h : ρ x = .pointer (some ⟨b, 0, none⟩)) : (execOp ρ o).run Yba.prog w = .ok (.value (.pointer (some ⟨b, 3, none⟩))) w := by
  have u := Yba.underlying77
  unfold execOp; rw [ho]; simp only; go_simp

theorem r_fo77_4 (x : Operand) (ho : o.op = .fieldAddr 77 x 4) {b : Nat} (h : ρ x = .pointer (some ⟨b, 0, none⟩)) : (execOp ρ o).run Yba.prog w = .ok (.value (.pointer (some ⟨b, 5, none⟩))) w := by
  have u := Yba.underlying77
  unfold execOp; rw [ho]; simp only; go_simp

theorem r_fo41_2 (x : Operand) (ho : o.op = .fieldAddr 41 x 2) {b : Nat} (h : ρ x = .pointer (some ⟨b, 0, none⟩)) : (execOp ρ o).run Yba.prog w = .ok (.value (.pointer (some ⟨b, 2, none⟩))) w := by
  have u := Yba.underlying41
  unfold execOp; rw [ho]; simp only; go_simp

theorem r_fo41_5 (x : Operand) (ho : o.op = .fieldAddr 41 x 5) {b : Nat} (h : ρ x = .pointer (some ⟨b, 0, none⟩)) : (execOp ρ o).run Yba.prog w = .ok (.value (.pointer (some ⟨b, 5, none⟩))) w := by
  have u := Yba.underlying41
  unfold execOp; rw [ho]; simp only; go_simp

theorem r_fa31_0 (x : Operand) (ho : o.op = .fieldAddr 31 x 0) {b q : Nat} (h : ρ x = .pointer (some ⟨b, q, none⟩)) : (execOp ρ o).run Yba.prog w = .ok (.value (.pointer (some ⟨b, q, none⟩))) w := by
  have u := Yba.underlying31
  unfold execOp; rw [ho]; simp only; go_simp

theorem r_fa36_0 (x : Operand) (ho : o.op = .fieldAddr 36 x 0) {b q : Nat} (h : ρ x = .pointer (some ⟨b, q, none⟩)) : (execOp ρ o).run Yba.prog w = .ok (.value (.pointer (some ⟨b, q, none⟩))) w := by
  have u := Yba.underlying36
  unfold execOp; rw [ho]; simp only; go_simp

theorem r_fa31_1 (x : Operand) (ho : o.op = .fieldAddr 31 x 1) {b q : Nat} (h : ρ x = .pointer (some ⟨b, q, none⟩)) : (execOp ρ o).run Yba.prog w = .ok (.value (.pointer (some ⟨b, q + 1, none⟩))) w := by
  have u := Yba.underlying31
  unfold execOp; rw [ho]; simp only; go_simp

theorem r_fa31_3 (x : Operand) (ho : o.op = .fieldAddr 31 x 3) {b q : Nat} (h : ρ x = .pointer (some ⟨b, q, none⟩)) : (execOp ρ o).run Yba.prog w = .ok (.value (.pointer (some ⟨b, q + 3, none⟩))) w := by
  have u := Yba.underlying31
  unfold execOp; rw [ho]; simp only; go_simp

theorem r_fa31_4 (x : Operand) (ho : o.op = .fieldAddr 31 x 4) {b q : Nat} (h : ρ x = .pointer (some ⟨b, q, none⟩)) : (execOp ρ o).run Yba.prog w = .ok (.value (.pointer (some ⟨b, q + 4, none⟩))) w := by
  have u := Yba.underlying31
  unfold execOp; rw [ho]; simp only; go_simp

theorem r_fa74_3 (x : Operand) (ho : o.op = .fieldAddr 74 x 3) {b q : Nat} (h : ρ x = .pointer (some ⟨b, q, none⟩)) : (execOp ρ o).run Yba.prog w = .ok (.value (.pointer (some ⟨b, q + 3, none⟩))) w := by
  have u := Yba.underlying74
  unfold execOp; rw [ho]; simp only; go_simp

theorem r_fa36_1 (x : Operand) (ho : o.op = .fieldAddr 36 x 1) {b q : Nat} (h : ρ x = .pointer (some ⟨b, q, none⟩)) : (execOp ρ o).run Yba.prog w = .ok (.value (.pointer (some ⟨b, q + 1, none⟩))) w := by
  have u := Yba.underlying36
  unfold execOp; rw [ho]; simp only; go_simp

theorem r_ix67 (x y : Operand) (ho : o.op = .indexAddr 67 x y) {b n c i : Nat} (hi : i < n) (h : ρ x = .slice (some ⟨b, 0, none⟩) n c) (h' : ρ y = .int .i64 i) : (execOp ρ o).run Yba.prog w = .ok (.value (.pointer (some ⟨b, i, none⟩))) w := by
  have u3 := Yba.underlying67
  have u4 := Yba.underlying78
  have h0 : (0 : Int) ≤ i := by omega
  have h1 : (i : Int) < n := by omega
  unfold execOp; rw [ho]; simp only; go_simp

theorem r_ix49 (x y : Operand) (ho : o.op = .indexAddr 49 x y) {b n c i : Nat} (hi : i < n) (h : ρ x = .slice (some ⟨b, 0, none⟩) n c) (h' : ρ y = .int .i64 i) : (execOp ρ o).run Yba.prog w = .ok (.value (.pointer (some ⟨b, i, none⟩))) w := by
  have u3 := Yba.underlying49
  have u4 := Yba.underlying75
  have h0 : (0 : Int) ≤ i := by omega
  have h1 : (i : Int) < n := by omega
  unfold execOp; rw [ho]; simp only; go_simp

theorem r_ix24 (x y : Operand) (ho : o.op = .indexAddr 24 x y) {b q n c i : Nat} (hi : i < n) (h : ρ x = .slice (some ⟨b, q, none⟩) n c) (h' : ρ y = .int .i64 i) : (execOp ρ o).run Yba.prog w = .ok (.value (.pointer (some ⟨b, q + i * 5, none⟩))) w := by
  have u3 := Yba.underlying24
  have u4 := Yba.underlying31
  have h0 : (0 : Int) ≤ i := by omega
  have h1 : (i : Int) < n := by omega
  unfold execOp; rw [ho]; simp only; go_simp

theorem r_ix28 (x y : Operand) (ho : o.op = .indexAddr 28 x y) {b q n c i : Nat} (hi : i < n) (h : ρ x = .slice (some ⟨b, q, none⟩) n c) (h' : ρ y = .int .i64 i) : (execOp ρ o).run Yba.prog w = .ok (.value (.pointer (some ⟨b, q + i * 4, none⟩))) w := by
  have u3 := Yba.underlying28
  have u4 := Yba.underlying74
  have h0 : (0 : Int) ≤ i := by omega
  have h1 : (i : Int) < n := by omega
  unfold execOp; rw [ho]; simp only; go_simp

theorem r_ix22 (x y : Operand) (ho : o.op = .indexAddr 22 x y) {b q n c i : Nat} (hi : i < n) (h : ρ x = .slice (some ⟨b, q, none⟩) n c) (h' : ρ y = .int .i64 i) : (execOp ρ o).run Yba.prog w = .ok (.value (.pointer (some ⟨b, q + i * 2, none⟩))) w := by
  have u3 := Yba.underlying22
  have u4 := Yba.underlying36
  have h0 : (0 : Int) ≤ i := by omega
  have h1 : (i : Int) < n := by omega
  unfold execOp; rw [ho]; simp only; go_simp

theorem r_ix65 (x y : Operand) (ho : o.op = .indexAddr 65 x y) {b q n c i : Nat} (hi : i < n) (h : ρ x = .slice (some ⟨b, q, none⟩) n c) (h' : ρ y = .int .i64 i) : (execOp ρ o).run Yba.prog w = .ok (.value (.pointer (some ⟨b, q + i * 3, none⟩))) w := by
  have u3 := Yba.underlying65
  have u4 := Yba.underlying57
  have h0 : (0 : Int) ≤ i := by omega
  have h1 : (i : Int) < n := by omega
  unfold execOp; rw [ho]; simp only; go_simp

theorem r_ld78 (x : Operand) (ho : o.op = .load 78 x) {b q : Nat} (h : ρ x = .pointer (some ⟨b, q, none⟩)) {v : Value} (hc : w.cell? ⟨b, q, none⟩ = some v) : (execOp ρ o).run Yba.prog w = .ok (.value v) w := by
  have u1 := Yba.underlying78
  unfold execOp; rw [ho]; simp only; go_simp

theorem r_ld3 (x : Operand) (ho : o.op = .load 3 x) {b q : Nat} (h : ρ x = .pointer (some ⟨b, q, none⟩)) {v : Value} (hc : w.cell? ⟨b, q, none⟩ = some v) : (execOp ρ o).run Yba.prog w = .ok (.value v) w := by
  have u1 := Yba.underlying3
  unfold execOp; rw [ho]; simp only; go_simp

theorem r_ld45 (x : Operand) (ho : o.op = .load 45 x) {b q : Nat} (h : ρ x = .pointer (some ⟨b, q, none⟩)) {v : Value} (hc : w.cell? ⟨b, q, none⟩ = some v) : (execOp ρ o).run Yba.prog w = .ok (.value v) w := by
  have u1 := Yba.underlying45
  unfold execOp; rw [ho]; simp only; go_simp

theorem r_ld51 (x : Operand) (ho : o.op = .load 51 x) {b q : Nat} (h : ρ x = .pointer (some ⟨b, q, none⟩)) {v : Value} (hc : w.cell? ⟨b, q, none⟩ = some v) : (execOp ρ o).run Yba.prog w = .ok (.value v) w := by
  have u1 := Yba.underlying51
  unfold execOp; rw [ho]; simp only; go_simp

theorem r_ld46 (x : Operand) (ho : o.op = .load 46 x) {b q : Nat} (h : ρ x = .pointer (some ⟨b, q, none⟩)) {v : Value} (hc : w.cell? ⟨b, q, none⟩ = some v) : (execOp ρ o).run Yba.prog w = .ok (.value v) w := by
  have u1 := Yba.underlying46
  unfold execOp; rw [ho]; simp only; go_simp

theorem r_ld65 (x : Operand) (ho : o.op = .load 65 x) {b q : Nat} (h : ρ x = .pointer (some ⟨b, q, none⟩)) {v : Value} (hc : w.cell? ⟨b, q, none⟩ = some v) : (execOp ρ o).run Yba.prog w = .ok (.value v) w := by
  have u1 := Yba.underlying65
  unfold execOp; rw [ho]; simp only; go_simp

theorem r_ld37 (x : Operand) (ho : o.op = .load 37 x) {b q : Nat} (h : ρ x = .pointer (some ⟨b, q, none⟩)) {v : Value} (hc : w.cell? ⟨b, q, none⟩ = some v) : (execOp ρ o).run Yba.prog w = .ok (.value v) w := by
  have u1 := Yba.underlying37
  unfold execOp; rw [ho]; simp only; go_simp

theorem r_ld5 (x : Operand) (ho : o.op = .load 5 x) {b q : Nat} (h : ρ x = .pointer (some ⟨b, q, none⟩)) {v : Value} (hc : w.cell? ⟨b, q, none⟩ = some v) : (execOp ρ o).run Yba.prog w = .ok (.value v) w := by
  have u1 := Yba.underlying5
  unfold execOp; rw [ho]; simp only; go_simp

theorem r_ld39 (x : Operand) (ho : o.op = .load 39 x) {b q : Nat} (h : ρ x = .pointer (some ⟨b, q, none⟩)) {v : Value} (hc : w.cell? ⟨b, q, none⟩ = some v) : (execOp ρ o).run Yba.prog w = .ok (.value v) w := by
  have u1 := Yba.underlying39
  unfold execOp; rw [ho]; simp only; go_simp

theorem r_ld49 (x : Operand) (ho : o.op = .load 49 x) {b q : Nat} (h : ρ x = .pointer (some ⟨b, q, none⟩)) {v : Value} (hc : w.cell? ⟨b, q, none⟩ = some v) : (execOp ρ o).run Yba.prog w = .ok (.value v) w := by
  have u1 := Yba.underlying49
  unfold execOp; rw [ho]; simp only; go_simp

theorem r_ld28 (x : Operand) (ho : o.op = .load 28 x) {b q : Nat} (h : ρ x = .pointer (some ⟨b, q, none⟩)) {v : Value} (hc : w.cell? ⟨b, q, none⟩ = some v) : (execOp ρ o).run Yba.prog w = .ok (.value v) w := by
  have u1 := Yba.underlying28
  unfold execOp; rw [ho]; simp only; go_simp

theorem r_ld67 (x : Operand) (ho : o.op = .load 67 x) {b q : Nat} (h : ρ x = .pointer (some ⟨b, q, none⟩)) {v : Value} (hc : w.cell? ⟨b, q, none⟩ = some v) : (execOp ρ o).run Yba.prog w = .ok (.value v) w := by
  have u1 := Yba.underlying67
  unfold execOp; rw [ho]; simp only; go_simp

theorem r_ld29 (x : Operand) (ho : o.op = .load 29 x) {b q : Nat} (h : ρ x = .pointer (some ⟨b, q, none⟩)) {v : Value} (hc : w.cell? ⟨b, q, none⟩ = some v) : (execOp ρ o).run Yba.prog w = .ok (.value v) w := by
  have u1 := Yba.underlying29
  unfold execOp; rw [ho]; simp only; go_simp

theorem r_ld75 (x : Operand) (ho : o.op = .load 75 x) {b q : Nat} (h : ρ x = .pointer (some ⟨b, q, none⟩)) {v : Value} (hc : w.cell? ⟨b, q, none⟩ = some v) : (execOp ρ o).run Yba.prog w = .ok (.value v) w := by
  have u1 := Yba.underlying75
  unfold execOp; rw [ho]; simp only; go_simp

theorem r_ld4 (x : Operand) (ho : o.op = .load 4 x) {b q : Nat} (h : ρ x = .pointer (some ⟨b, q, none⟩)) {v : Value} (hc : w.cell? ⟨b, q, none⟩ = some v) : (execOp ρ o).run Yba.prog w = .ok (.value v) w := by
  have u1 := Yba.underlying4
  unfold execOp; rw [ho]; simp only; go_simp

theorem r_ld33 (x : Operand) (ho : o.op = .load 33 x) {b q : Nat} (h : ρ x = .pointer (some ⟨b, q, none⟩)) {v : Value} (hc : w.cell? ⟨b, q, none⟩ = some v) : (execOp ρ o).run Yba.prog w = .ok (.value v) w := by
  have u1 := Yba.underlying33
  unfold execOp; rw [ho]; simp only; go_simp

theorem r_ld38 (x : Operand) (ho : o.op = .load 38 x) {b q : Nat} (h : ρ x = .pointer (some ⟨b, q, none⟩)) {v : Value} (hc : w.cell? ⟨b, q, none⟩ = some v) : (execOp ρ o).run Yba.prog w = .ok (.value v) w := by
  have u1 := Yba.underlying38
  unfold execOp; rw [ho]; simp only; go_simp

theorem r_ld34 (x : Operand) (ho : o.op = .load 34 x) {b q : Nat} (h : ρ x = .pointer (some ⟨b, q, none⟩)) {v : Value} (hc : w.cell? ⟨b, q, none⟩ = some v) : (execOp ρ o).run Yba.prog w = .ok (.value v) w := by
  have u1 := Yba.underlying34
  unfold execOp; rw [ho]; simp only; go_simp

theorem r_len65 (x : Operand) (ho : o.op = .call { callee := .builtin .len, args := #[x], argTypes := #[65] }) {b : Option Addr} {n c : Nat} (h : ρ x = .slice b n c) : (execOp ρ o).run Yba.prog w = .ok (.value (.int .i64 n)) w := by
  have u1 := Yba.underlying65
  unfold execOp; rw [ho]; simp only; go_simp

theorem r_len49 (x : Operand) (ho : o.op = .call { callee := .builtin .len, args := #[x], argTypes := #[49] }) {b : Option Addr} {n c : Nat} (h : ρ x = .slice b n c) : (execOp ρ o).run Yba.prog w = .ok (.value (.int .i64 n)) w := by
  have u1 := Yba.underlying49
  unfold execOp; rw [ho]; simp only; go_simp

theorem r_len28 (x : Operand) (ho : o.op = .call { callee := .builtin .len, args := #[x], argTypes := #[28] }) {b : Option Addr} {n c : Nat} (h : ρ x = .slice b n c) : (execOp ρ o).run Yba.prog w = .ok (.value (.int .i64 n)) w := by
  have u1 := Yba.underlying28
  unfold execOp; rw [ho]; simp only; go_simp

theorem r_len67 (x : Operand) (ho : o.op = .call { callee := .builtin .len, args := #[x], argTypes := #[67] }) {b : Option Addr} {n c : Nat} (h : ρ x = .slice b n c) : (execOp ρ o).run Yba.prog w = .ok (.value (.int .i64 n)) w := by
  have u1 := Yba.underlying67
  unfold execOp; rw [ho]; simp only; go_simp

theorem r_len29 (x : Operand) (ho : o.op = .call { callee := .builtin .len, args := #[x], argTypes := #[29] }) {b : Option Addr} {n c : Nat} (h : ρ x = .slice b n c) : (execOp ρ o).run Yba.prog w = .ok (.value (.int .i64 n)) w := by
  have u1 := Yba.underlying29
  unfold execOp; rw [ho]; simp only; go_simp

theorem r_len38 (x : Operand) (ho : o.op = .call { callee := .builtin .len, args := #[x], argTypes := #[38] }) {b : Option Addr} {n c : Nat} (h : ρ x = .slice b n c) : (execOp ρ o).run Yba.prog w = .ok (.value (.int .i64 n)) w := by
  have u1 := Yba.underlying38
  unfold execOp; rw [ho]; simp only; go_simp

theorem r_len24 (x : Operand) (ho : o.op = .call { callee := .builtin .len, args := #[x], argTypes := #[24] }) {b : Option Addr} {n c : Nat} (h : ρ x = .slice b n c) : (execOp ρ o).run Yba.prog w = .ok (.value (.int .i64 n)) w := by
  have u1 := Yba.underlying24
  unfold execOp; rw [ho]; simp only; go_simp

theorem r_len22 (x : Operand) (ho : o.op = .call { callee := .builtin .len, args := #[x], argTypes := #[22] }) {b : Option Addr} {n c : Nat} (h : ρ x = .slice b n c) : (execOp ρ o).run Yba.prog w = .ok (.value (.int .i64 n)) w := by
  have u1 := Yba.underlying22
  unfold execOp; rw [ho]; simp only; go_simp

theorem r_neq3 (x y : Operand) (ho : o.op = .binOp .neq 3 x y 3) {z : Int} (h : ρ x = .int .i64 z) (h' : ρ y = .int .i64 z) : (execOp ρ o).run Yba.prog w = .ok (.value (.bool false)) w := by
  have u1 := Yba.underlying3
  unfold execOp; rw [ho]; simp only; go_simp

theorem r_lss3 (x y : Operand) (ho : o.op = .binOp .lss 3 x y 3) {m n : Nat} (h : ρ x = .int .i64 m) (h' : ρ y = .int .i64 n) : (execOp ρ o).run Yba.prog w = .ok (.value (.bool (decide (m < n)))) w := by
  have u1 := Yba.underlying3
  unfold execOp; rw [ho]; simp only; go_simp

theorem r_inc3 (x : Operand) (ho : o.op = .binOp .add 3 x (.const (.int .i64 1)) 3) {m : Nat} (hm : m ≤ 1000000) (h : ρ x = .int .i64 m) (hk : ρ (.const (.int .i64 1)) = .int .i64 1) : (execOp ρ o).run Yba.prog w = .ok (.value (.int .i64 ((m + 1 : Nat) : Int))) w := by
  have u1 := Yba.underlying3
  have hw : IntKind.i64.wrap ((m : Int) + 1) = ((m + 1 : Nat) : Int) := by rw [IntKind.wrap_i64]; omega
  unfold execOp; rw [ho]; simp only; go_simp

theorem r_neq37 (x y : Operand) (ho : o.op = .binOp .neq 37 x y 37) {b : Nat} (h : ρ x = ptr b) (h' : ρ y = ptr b) : (execOp ρ o).run Yba.prog w = .ok (.value (.bool false)) w := by
  have hn := neq_ptr_same (P := Yba.prog) w (tp := 37) ⟨b, 0, none⟩ Yba.underlying37 (by kernel_rfl)
  unfold ptr at *
  unfold execOp; rw [ho]; simp only; go_simp

theorem r_neq39 (x y : Operand) (ho : o.op = .binOp .neq 39 x y 39) {b : Nat} (h : ρ x = ptr b) (h' : ρ y = ptr b) : (execOp ρ o).run Yba.prog w = .ok (.value (.bool false)) w := by
  have hn := neq_ptr_same (P := Yba.prog) w (tp := 39) ⟨b, 0, none⟩ Yba.underlying39 (by kernel_rfl)
  unfold ptr at *
  unfold execOp; rw [ho]; simp only; go_simp

theorem r_neq4 (x y : Operand) (ho : o.op = .binOp .neq 4 x y 4) {b : Bool} (h : ρ x = .bool b) (h' : ρ y = .bool b) : (execOp ρ o).run Yba.prog w = .ok (.value (.bool false)) w := by
  have u1 := Yba.underlying4
  unfold execOp; rw [ho]; simp only; go_simp

theorem r_neq51 (x : Operand) (ho : o.op = .binOp .neq 51 x (.const (.map none)) 51) (h : ρ x = .map none) (hk : ρ (.const (.map none)) = .map none) : (execOp ρ o).run Yba.prog w = .ok (.value (.bool false)) w := by
  have hn := neq_map_nil w
  unfold execOp; rw [ho]; simp only; go_simp

theorem r_pick (x y : Operand) (ho : o.op = .pick x (.const (.bool true)) y) {v : Value} (h : ρ x = .bool false) (h' : ρ y = v) : (execOp ρ o).run Yba.prog w = .ok (.value v) w := by
  unfold execOp; rw [ho]; simp only; go_simp

theorem r_b63 (x y : Operand) (ho : o.op = .build 63 #[(0, x), (1, y)]) {b : Nat} {m k : Int} (h : ρ x = ptr b) (h' : ρ y = .agg #[.int .u8 m, .int .u8 k]) : (execOp ρ o).run Yba.prog w = .ok (.value (.agg #[ptr b, .int .u8 m, .int .u8 k])) w := by
  unfold ptr at *
  have u3 := Yba.underlying63
  unfold execOp; rw [ho]; simp only; go_simp

theorem r_lookup (x y : Operand) (ho : o.op = .lookup 46 x y true) {m k v : Value} (h : ρ x = m) (h' : ρ y = k) (hl : (Instr.lookup 46 m k true).run Yba.prog w = .ok v w) : (execOp ρ o).run Yba.prog w = .ok (.value v) w := by
  unfold execOp; rw [ho]; simp only; rw [h, h']; go_simp

theorem r_ext (x : Operand) (k : Nat) (ho : o.op = .extract x k) {vs : Array Value} {v : Value} (h : ρ x = .tuple vs) (hv : vs[k]? = some v) : (execOp ρ o).run Yba.prog w = .ok (.value v) w := by
  unfold execOp; rw [ho]; simp only; go_simp

theorem r_lenM (x : Operand) (ho : o.op = .call { callee := .builtin .len, args := #[x], argTypes := #[46] }) {b : Nat} {es : Array MapEntry} {c : Nat} (h : ρ x = .map (some b)) (hb : w.heap[b]? = some (.map es c)) : (execOp ρ o).run Yba.prog w = .ok (.value (.int .i64 es.size)) w := by
  have hn := fun ty => len_map w b es c ty hb
  unfold execOp; rw [ho]; simp only; go_simp

end
end Go.Proofs.Ybulkeyzg
