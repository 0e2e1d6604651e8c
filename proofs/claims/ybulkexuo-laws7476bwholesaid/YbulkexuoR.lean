import Derived.Test.YbulkexuoK
import Derived.Test.YbulkexuoM1
namespace Go.Proofs.Ybulkexuo
open Go.RowKit

section
variable {ρ : Operand → Value} {o : Oper} {w : World}
theorem r_mv (x : Operand) (ho : o.op = .move x) {v : Value} (h : ρ x = v) : (execOp ρ o).run Yba.prog w = .ok (.value v) w := by
  unfold execOp; rw [ho]; simp [h]
theorem r_as (x : Operand) (ho : o.op = .assign x) {v : Value} (h : ρ x = v) : (execOp ρ o).run Yba.prog w = .ok (.value v) w := by
  unfold execOp; rw [ho]; simp [h]
theorem r_nil (x : Operand) (ho : o.op = .nilCheck x) {ad : Addr} (h : ρ x = .pointer (some ad)) : (execOp ρ o).run Yba.prog w = .ok (.value (.pointer (some ad))) w := by
  unfold execOp; rw [ho]; simp only; go_simp
theorem r_pickT (x y z : Operand) (ho : o.op = .pick x y z) {b : Bool} {v : Value} (hb : b = true) (h : ρ x = .bool b) (h' : ρ y = v) : (execOp ρ o).run Yba.prog w = .ok (.value v) w := by
  subst hb; unfold execOp; rw [ho]; simp only; go_simp
theorem r_pickE (x y z : Operand) (ho : o.op = .pick x y z) {b : Bool} {v : Value} (hb : b = false) (h : ρ x = .bool b) (h' : ρ z = v) : (execOp ρ o).run Yba.prog w = .ok (.value v) w := by
  subst hb; unfold execOp; rw [ho]; simp only; go_simp
theorem r_not (x : Operand) (ho : o.op = .unOp .not 4 x) {b : Bool} (h : ρ x = .bool b) : (execOp ρ o).run Yba.prog w = .ok (.value (.bool !b)) w := by
  have u3 := Yba.underlying4
  unfold execOp; rw [ho]; simp only; go_simp
theorem r_ext (x : Operand) (k : Nat) (ho : o.op = .extract x k) {vs : Array Value} {v : Value} (h : ρ x = .tuple vs) (hv : vs[k]? = some v) : (execOp ρ o).run Yba.prog w = .ok (.value v) w := by
  unfold execOp; rw [ho]; simp only; go_simp
theorem r_shr30 (p q : Operand) (ho : o.op = .binOp .shr 30 p q 36) {m k : Nat} (hk : k < 32) (h : ρ p = .int .u32 m) (h' : ρ q = .int .u64 k) : (execOp ρ o).run Yba.prog w = .ok (.value (.int .u32 (m / 2 ^ k : Nat))) w := by
  have u30 := Yba.underlying30
  have u36 := Yba.underlying36
  unfold execOp; rw [ho]; simp only; go_simp
theorem r_max21 (p q : Operand) (ho : o.op = .call { callee := .builtin .max, args := #[p, q], argTypes := #[21, 21] }) {x y : Int} (h : ρ p = .int .i32 x) (h' : ρ q = .int .i32 y) : (execOp ρ o).run Yba.prog w = .ok (.value (.int .i32 (mx x y))) w := by
  have u21 := Yba.underlying21
  unfold mx
  by_cases hxy : x < y
  · rw [if_pos hxy]
    unfold execOp; rw [ho]; simp only; go_simp
  · rw [if_neg hxy]
    unfold execOp; rw [ho]; simp only; go_simp
theorem r_bit (p q : Operand) (ho : o.op = .binOp .and 30 p q 30) {x : Nat} (hx : x < 4294967296) (h : ρ p = .int .u32 x) (h' : ρ q = .int .u32 1) : (execOp ρ o).run Yba.prog w = .ok (.value (.int .u32 (x % 2 : Nat))) w := by
  have u30 := Yba.underlying30
  have hw : bits .and .u32 (x : Int) 1 = ((x % 2 : Nat) : Int) := by
    have := bits_mask .u32 32 (by decide) (fun n h1 h2 => by rw [IntKind.wrap_u32]; omega) 1 (by decide) (x : Int) (by omega) (by omega)
    simpa using this
  unfold execOp; rw [ho]; simp only; go_simp
theorem r_len22 (x : Operand) (ho : o.op = .call { callee := .builtin .len, args := #[x], argTypes := #[22] }) {b : Option Addr} {n c : Nat} (h : ρ x = .slice b n c) : (execOp ρ o).run Yba.prog w = .ok (.value (.int .i64 n)) w := by
  have u22 := Yba.underlying22
  unfold execOp; rw [ho]; simp only; go_simp
theorem r_gtr3 (p q : Operand) (ho : o.op = .binOp .gtr 3 p q 3) {x y : Int} (h : ρ p = .int .i64 x) (h' : ρ q = .int .i64 y) : (execOp ρ o).run Yba.prog w = .ok (.value (.bool (decide (y < x)))) w := by
  have u3 := Yba.underlying3
  unfold execOp; rw [ho]; simp only; go_simp
theorem r_len23 (x : Operand) (ho : o.op = .call { callee := .builtin .len, args := #[x], argTypes := #[23] }) {b : Option Addr} {n c : Nat} (h : ρ x = .slice b n c) : (execOp ρ o).run Yba.prog w = .ok (.value (.int .i64 n)) w := by
  have u23 := Yba.underlying23
  unfold execOp; rw [ho]; simp only; go_simp
theorem r_len24 (x : Operand) (ho : o.op = .call { callee := .builtin .len, args := #[x], argTypes := #[24] }) {b : Option Addr} {n c : Nat} (h : ρ x = .slice b n c) : (execOp ρ o).run Yba.prog w = .ok (.value (.int .i64 n)) w := by
  have u24 := Yba.underlying24
  unfold execOp; rw [ho]; simp only; go_simp
theorem r_cn5_3 (p : Operand) (ho : o.op = .convert 5 3 p) {m : Nat} (hm : m < 2147483648) (h : ρ p = .int .u8 m) : (execOp ρ o).run Yba.prog w = .ok (.value (.int .i64 m)) w := by
  have u5 := Yba.underlying5
  have u3 := Yba.underlying3
  have hw : IntKind.i64.wrap (m : Int) = m := by rw [IntKind.wrap_i64]; omega
  unfold execOp; rw [ho]; simp only; go_simp
theorem r_cv5_3 (p : Operand) (ho : o.op = .convert 5 3 p) {x z : Int} (hw : IntKind.i64.wrap x = z) (h : ρ p = .int .u8 x) : (execOp ρ o).run Yba.prog w = .ok (.value (.int .i64 z)) w := by
  have u5 := Yba.underlying5
  have u3 := Yba.underlying3
  unfold execOp; rw [ho]; simp only; go_simp
theorem r_rem3_20 (p : Operand) (ho : o.op = .binOp .rem 3 p (.const (.int .i64 20)) 3) {x : Nat} (h : ρ p = .int .i64 x) (h' : ρ (.const (.int .i64 20)) = .int .i64 20) : (execOp ρ o).run Yba.prog w = .ok (.value (.int .i64 (x % 20 : Nat))) w := by
  have u3 := Yba.underlying3
  unfold execOp; rw [ho]; simp only; go_simp
  rw [Int.tmod_eq_emod_of_nonneg (by omega)]
theorem r_cn3_21 (p : Operand) (ho : o.op = .convert 3 21 p) {m : Nat} (hm : m < 2147483648) (h : ρ p = .int .i64 m) : (execOp ρ o).run Yba.prog w = .ok (.value (.int .i32 m)) w := by
  have u3 := Yba.underlying3
  have u21 := Yba.underlying21
  have hw : IntKind.i32.wrap (m : Int) = m := by rw [IntKind.wrap_i32]; omega
  unfold execOp; rw [ho]; simp only; go_simp
theorem r_cv3_21 (p : Operand) (ho : o.op = .convert 3 21 p) {x z : Int} (hw : IntKind.i32.wrap x = z) (h : ρ p = .int .i64 x) : (execOp ρ o).run Yba.prog w = .ok (.value (.int .i32 z)) w := by
  have u3 := Yba.underlying3
  have u21 := Yba.underlying21
  unfold execOp; rw [ho]; simp only; go_simp
theorem r_b27_3c (ho : o.op = .build 27 #[(3, .const (.int .i32 (-1)))])  (k0 : ρ (.const (.int .i32 (-1))) = .int .i32 (-1)) : (execOp ρ o).run Yba.prog w = .ok (.value (.agg #[.int .i32 0, .int .i32 0, .int .i32 0, .int .i32 (-1)])) w := by
  have u27 := Yba.underlying27
  have u21 := Yba.underlying21
  unfold execOp; rw [ho]; simp only; go_simp
theorem r_ix25z (x y : Operand) (ho : o.op = .indexAddr 25 x y) {b n c i : Nat} {k : IntKind} (hi : i < n) (h : ρ x = .slice (some ⟨b, 0, none⟩) n c) (h' : ρ y = .int k i) : (execOp ρ o).run Yba.prog w = .ok (.value (.pointer (some ⟨b, i * 4, none⟩))) w := by
  have u25 := Yba.underlying25
  have u27 := Yba.underlying27
  have h0 : (0 : Int) ≤ i := by omega
  have h1 : (i : Int) < n := by omega
  unfold execOp; rw [ho]; simp only; go_simp
theorem r_ix25 (x y : Operand) (ho : o.op = .indexAddr 25 x y) {b q n c i : Nat} {k : IntKind} (hi : i < n) (h : ρ x = .slice (some ⟨b, q, none⟩) n c) (h' : ρ y = .int k i) : (execOp ρ o).run Yba.prog w = .ok (.value (.pointer (some ⟨b, q + i * 4, none⟩))) w := by
  have u25 := Yba.underlying25
  have u27 := Yba.underlying27
  have h0 : (0 : Int) ≤ i := by omega
  have h1 : (i : Int) < n := by omega
  unfold execOp; rw [ho]; simp only; go_simp
theorem r_st27 (x y : Operand) (ho : o.op = .store 27 x y) {z0 : Int} {z1 : Int} {z2 : Int} {z3 : Int} (h : ρ x = ptr w.heap.size) (h' : ρ y = .agg #[.int .i32 z0, .int .i32 z1, .int .i32 z2, .int .i32 z3]) : (execOp ρ o).run Yba.prog (w.alloc (.cells #[.int .i32 0, .int .i32 0, .int .i32 0, .int .i32 0] 27)) = .ok .skip (w.alloc (.cells #[.int .i32 z0, .int .i32 z1, .int .i32 z2, .int .i32 z3] 27)) := by
  unfold ptr at *
  have u27 := Yba.underlying27
  have u21 := Yba.underlying21
  unfold execOp; rw [ho]; simp only; go_simp
theorem r_lss21 (p q : Operand) (ho : o.op = .binOp .lss 21 p q 21) {x y : Int} (h : ρ p = .int .i32 x) (h' : ρ q = .int .i32 y) : (execOp ρ o).run Yba.prog w = .ok (.value (.bool (decide (x < y)))) w := by
  have u21 := Yba.underlying21
  unfold execOp; rw [ho]; simp only; go_simp
theorem r_dec21 (x : Operand) (ho : o.op = .binOp .sub 21 x (.const (.int .i32 1)) 21) {m : Nat} (hm : m ≤ 1000000) (h1 : 1 ≤ m) (h : ρ x = .int .i32 m) (hk : ρ (.const (.int .i32 1)) = .int .i32 1) : (execOp ρ o).run Yba.prog w = .ok (.value (.int .i32 ((m - 1 : Nat) : Int))) w := by
  have u21 := Yba.underlying21
  have hw : IntKind.i32.wrap ((m : Int) - 1) = ((m - 1 : Nat) : Int) := by rw [IntKind.wrap_i32]; omega
  unfold execOp; rw [ho]; simp only; go_simp
theorem r_cn21_3 (p : Operand) (ho : o.op = .convert 21 3 p) {m : Nat} (hm : m < 2147483648) (h : ρ p = .int .i32 m) : (execOp ρ o).run Yba.prog w = .ok (.value (.int .i64 m)) w := by
  have u21 := Yba.underlying21
  have u3 := Yba.underlying3
  have hw : IntKind.i64.wrap (m : Int) = m := by rw [IntKind.wrap_i64]; omega
  unfold execOp; rw [ho]; simp only; go_simp
theorem r_cv21_3 (p : Operand) (ho : o.op = .convert 21 3 p) {x z : Int} (hw : IntKind.i64.wrap x = z) (h : ρ p = .int .i32 x) : (execOp ρ o).run Yba.prog w = .ok (.value (.int .i64 z)) w := by
  have u21 := Yba.underlying21
  have u3 := Yba.underlying3
  unfold execOp; rw [ho]; simp only; go_simp
theorem r_lss3 (p q : Operand) (ho : o.op = .binOp .lss 3 p q 3) {x y : Int} (h : ρ p = .int .i64 x) (h' : ρ q = .int .i64 y) : (execOp ρ o).run Yba.prog w = .ok (.value (.bool (decide (x < y)))) w := by
  have u3 := Yba.underlying3
  unfold execOp; rw [ho]; simp only; go_simp
theorem r_ix22z (x y : Operand) (ho : o.op = .indexAddr 22 x y) {b n c i : Nat} {k : IntKind} (hi : i < n) (h : ρ x = .slice (some ⟨b, 0, none⟩) n c) (h' : ρ y = .int k i) : (execOp ρ o).run Yba.prog w = .ok (.value (.pointer (some ⟨b, i * 4, none⟩))) w := by
  have u22 := Yba.underlying22
  have u29 := Yba.underlying29
  have h0 : (0 : Int) ≤ i := by omega
  have h1 : (i : Int) < n := by omega
  unfold execOp; rw [ho]; simp only; go_simp
theorem r_ix22 (x y : Operand) (ho : o.op = .indexAddr 22 x y) {b q n c i : Nat} {k : IntKind} (hi : i < n) (h : ρ x = .slice (some ⟨b, q, none⟩) n c) (h' : ρ y = .int k i) : (execOp ρ o).run Yba.prog w = .ok (.value (.pointer (some ⟨b, q + i * 4, none⟩))) w := by
  have u22 := Yba.underlying22
  have u29 := Yba.underlying29
  have h0 : (0 : Int) ≤ i := by omega
  have h1 : (i : Int) < n := by omega
  unfold execOp; rw [ho]; simp only; go_simp
theorem r_fo29_3 (x : Operand) (ho : o.op = .fieldAddr 29 x 3) {b : Nat} (h : ρ x = .pointer (some ⟨b, 0, none⟩)) : (execOp ρ o).run Yba.prog w = .ok (.value (.pointer (some ⟨b, 3, none⟩))) w := by
  have u29 := Yba.underlying29
  unfold execOp; rw [ho]; simp only; go_simp
theorem r_fa29_3 (x : Operand) (ho : o.op = .fieldAddr 29 x 3) {b q : Nat} (h : ρ x = .pointer (some ⟨b, q, none⟩)) : (execOp ρ o).run Yba.prog w = .ok (.value (.pointer (some ⟨b, q + 3, none⟩))) w := by
  have u29 := Yba.underlying29
  unfold execOp; rw [ho]; simp only; go_simp
theorem r_ld21 (x : Operand) (ho : o.op = .load 21 x) {b q : Nat} (h : ρ x = .pointer (some ⟨b, q, none⟩)) {v : Value} (hc : w.cell? ⟨b, q, none⟩ = some v) : (execOp ρ o).run Yba.prog w = .ok (.value v) w := by
  have u21 := Yba.underlying21
  unfold execOp; rw [ho]; simp only; go_simp
theorem r_geq21 (p q : Operand) (ho : o.op = .binOp .geq 21 p q 21) {x y : Int} (h : ρ p = .int .i32 x) (h' : ρ q = .int .i32 y) : (execOp ρ o).run Yba.prog w = .ok (.value (.bool (decide (y ≤ x)))) w := by
  have u21 := Yba.underlying21
  unfold execOp; rw [ho]; simp only; go_simp
theorem r_ld29 (x : Operand) (ho : o.op = .load 29 x) {b q : Nat} {v0 v1 v2 v3 : Value} (h : ρ x = .pointer (some ⟨b, q, none⟩)) (c0 : w.cell? ⟨b, q, none⟩ = some v0) (c1 : w.cell? ⟨b, q + 1, none⟩ = some v1) (c2 : w.cell? ⟨b, q + 2, none⟩ = some v2) (c3 : w.cell? ⟨b, q + 3, none⟩ = some v3) : (execOp ρ o).run Yba.prog w = .ok (.value (.agg #[v0, v1, v2, v3])) w := by
  have u29 := Yba.underlying29
  have u21 := Yba.underlying21
  unfold execOp; rw [ho]; simp only; go_simp
theorem r_ld29z (x : Operand) (ho : o.op = .load 29 x) {b : Nat} {v0 v1 v2 v3 : Value} (h : ρ x = .pointer (some ⟨b, 0, none⟩)) (c0 : w.cell? ⟨b, 0, none⟩ = some v0) (c1 : w.cell? ⟨b, 1, none⟩ = some v1) (c2 : w.cell? ⟨b, 2, none⟩ = some v2) (c3 : w.cell? ⟨b, 3, none⟩ = some v3) : (execOp ρ o).run Yba.prog w = .ok (.value (.agg #[v0, v1, v2, v3])) w := by
  have u29 := Yba.underlying29
  have u21 := Yba.underlying21
  unfold execOp; rw [ho]; simp only; go_simp
theorem r_al29 (ho : o.op = .alloc 29) : (execOp ρ o).run Yba.prog w = .ok (.value (ptr w.heap.size)) (w.alloc (.cells #[.int .i32 0, .int .i32 0, .int .i32 0, .int .i32 0] 29)) := by
  unfold ptr
  have u29 := Yba.underlying29
  have u21 := Yba.underlying21
  unfold execOp; rw [ho]; simp only; go_simp
theorem r_st29 (x y : Operand) (ho : o.op = .store 29 x y) {z0 : Int} {z1 : Int} {z2 : Int} {z3 : Int} (h : ρ x = ptr w.heap.size) (h' : ρ y = .agg #[.int .i32 z0, .int .i32 z1, .int .i32 z2, .int .i32 z3]) : (execOp ρ o).run Yba.prog (w.alloc (.cells #[.int .i32 0, .int .i32 0, .int .i32 0, .int .i32 0] 29)) = .ok .skip (w.alloc (.cells #[.int .i32 z0, .int .i32 z1, .int .i32 z2, .int .i32 z3] 29)) := by
  unfold ptr at *
  have u29 := Yba.underlying29
  have u21 := Yba.underlying21
  unfold execOp; rw [ho]; simp only; go_simp
theorem r_fo29_0 (x : Operand) (ho : o.op = .fieldAddr 29 x 0) {b : Nat} (h : ρ x = .pointer (some ⟨b, 0, none⟩)) : (execOp ρ o).run Yba.prog w = .ok (.value (.pointer (some ⟨b, 0, none⟩))) w := by
  have u29 := Yba.underlying29
  unfold execOp; rw [ho]; simp only; go_simp
theorem r_fa29_0 (x : Operand) (ho : o.op = .fieldAddr 29 x 0) {b q : Nat} (h : ρ x = .pointer (some ⟨b, q, none⟩)) : (execOp ρ o).run Yba.prog w = .ok (.value (.pointer (some ⟨b, q, none⟩))) w := by
  have u29 := Yba.underlying29
  unfold execOp; rw [ho]; simp only; go_simp
theorem r_cn21_30 (p : Operand) (ho : o.op = .convert 21 30 p) {m : Nat} (hm : m < 2147483648) (h : ρ p = .int .i32 m) : (execOp ρ o).run Yba.prog w = .ok (.value (.int .u32 m)) w := by
  have u21 := Yba.underlying21
  have u30 := Yba.underlying30
  have hw : IntKind.u32.wrap (m : Int) = m := by rw [IntKind.wrap_u32]; omega
  unfold execOp; rw [ho]; simp only; go_simp
theorem r_cv21_30 (p : Operand) (ho : o.op = .convert 21 30 p) {x z : Int} (hw : IntKind.u32.wrap x = z) (h : ρ p = .int .i32 x) : (execOp ρ o).run Yba.prog w = .ok (.value (.int .u32 z)) w := by
  have u21 := Yba.underlying21
  have u30 := Yba.underlying30
  unfold execOp; rw [ho]; simp only; go_simp
theorem r_rem30 (p q : Operand) (ho : o.op = .binOp .rem 30 p q 30) {x y : Nat} (hy : 0 < y) (h : ρ p = .int .u32 x) (h' : ρ q = .int .u32 y) : (execOp ρ o).run Yba.prog w = .ok (.value (.int .u32 (x % y : Nat))) w := by
  have u30 := Yba.underlying30
  have h0 : ¬ y = 0 := by omega
  unfold execOp; rw [ho]; simp only; go_simp
  rw [Int.tmod_eq_emod_of_nonneg (by omega)]
theorem r_cn30_21 (p : Operand) (ho : o.op = .convert 30 21 p) {m : Nat} (hm : m < 2147483648) (h : ρ p = .int .u32 m) : (execOp ρ o).run Yba.prog w = .ok (.value (.int .i32 m)) w := by
  have u30 := Yba.underlying30
  have u21 := Yba.underlying21
  have hw : IntKind.i32.wrap (m : Int) = m := by rw [IntKind.wrap_i32]; omega
  unfold execOp; rw [ho]; simp only; go_simp
theorem r_cv30_21 (p : Operand) (ho : o.op = .convert 30 21 p) {x z : Int} (hw : IntKind.i32.wrap x = z) (h : ρ p = .int .u32 x) : (execOp ρ o).run Yba.prog w = .ok (.value (.int .i32 z)) w := by
  have u30 := Yba.underlying30
  have u21 := Yba.underlying21
  unfold execOp; rw [ho]; simp only; go_simp
theorem r_fo29_1 (x : Operand) (ho : o.op = .fieldAddr 29 x 1) {b : Nat} (h : ρ x = .pointer (some ⟨b, 0, none⟩)) : (execOp ρ o).run Yba.prog w = .ok (.value (.pointer (some ⟨b, 1, none⟩))) w := by
  have u29 := Yba.underlying29
  unfold execOp; rw [ho]; simp only; go_simp
theorem r_fa29_1 (x : Operand) (ho : o.op = .fieldAddr 29 x 1) {b q : Nat} (h : ρ x = .pointer (some ⟨b, q, none⟩)) : (execOp ρ o).run Yba.prog w = .ok (.value (.pointer (some ⟨b, q + 1, none⟩))) w := by
  have u29 := Yba.underlying29
  unfold execOp; rw [ho]; simp only; go_simp
theorem r_fo29_2 (x : Operand) (ho : o.op = .fieldAddr 29 x 2) {b : Nat} (h : ρ x = .pointer (some ⟨b, 0, none⟩)) : (execOp ρ o).run Yba.prog w = .ok (.value (.pointer (some ⟨b, 2, none⟩))) w := by
  have u29 := Yba.underlying29
  unfold execOp; rw [ho]; simp only; go_simp
theorem r_fa29_2 (x : Operand) (ho : o.op = .fieldAddr 29 x 2) {b q : Nat} (h : ρ x = .pointer (some ⟨b, q, none⟩)) : (execOp ρ o).run Yba.prog w = .ok (.value (.pointer (some ⟨b, q + 2, none⟩))) w := by
  have u29 := Yba.underlying29
  unfold execOp; rw [ho]; simp only; go_simp
theorem r_b27_0123 (x0 x1 x2 x3 : Operand) (ho : o.op = .build 27 #[(0, x0), (1, x1), (2, x2), (3, x3)]) {z0_0 : Int} {z1_0 : Int} {z2_0 : Int} {z3_0 : Int} (h0 : ρ x0 = .int .i32 z0_0) (h1 : ρ x1 = .int .i32 z1_0) (h2 : ρ x2 = .int .i32 z2_0) (h3 : ρ x3 = .int .i32 z3_0) : (execOp ρ o).run Yba.prog w = .ok (.value (.agg #[.int .i32 z0_0, .int .i32 z1_0, .int .i32 z2_0, .int .i32 z3_0])) w := by
  have u27 := Yba.underlying27
  have u21 := Yba.underlying21
  unfold execOp; rw [ho]; simp only; go_simp
theorem r_inc21 (x : Operand) (ho : o.op = .binOp .add 21 x (.const (.int .i32 1)) 21) {m : Nat} (hm : m ≤ 1000000) (h : ρ x = .int .i32 m) (hk : ρ (.const (.int .i32 1)) = .int .i32 1) : (execOp ρ o).run Yba.prog w = .ok (.value (.int .i32 ((m + 1 : Nat) : Int))) w := by
  have u21 := Yba.underlying21
  have hw : IntKind.i32.wrap ((m : Int) + 1) = ((m + 1 : Nat) : Int) := by rw [IntKind.wrap_i32]; omega
  unfold execOp; rw [ho]; simp only; go_simp
theorem r_ix23z (x y : Operand) (ho : o.op = .indexAddr 23 x y) {b n c i : Nat} {k : IntKind} (hi : i < n) (h : ρ x = .slice (some ⟨b, 0, none⟩) n c) (h' : ρ y = .int k i) : (execOp ρ o).run Yba.prog w = .ok (.value (.pointer (some ⟨b, i * 2, none⟩))) w := by
  have u23 := Yba.underlying23
  have u35 := Yba.underlying35
  have h0 : (0 : Int) ≤ i := by omega
  have h1 : (i : Int) < n := by omega
  unfold execOp; rw [ho]; simp only; go_simp
theorem r_ix23 (x y : Operand) (ho : o.op = .indexAddr 23 x y) {b q n c i : Nat} {k : IntKind} (hi : i < n) (h : ρ x = .slice (some ⟨b, q, none⟩) n c) (h' : ρ y = .int k i) : (execOp ρ o).run Yba.prog w = .ok (.value (.pointer (some ⟨b, q + i * 2, none⟩))) w := by
  have u23 := Yba.underlying23
  have u35 := Yba.underlying35
  have h0 : (0 : Int) ≤ i := by omega
  have h1 : (i : Int) < n := by omega
  unfold execOp; rw [ho]; simp only; go_simp
theorem r_ld35 (x : Operand) (ho : o.op = .load 35 x) {b q : Nat} {v0 v1 : Value} (h : ρ x = .pointer (some ⟨b, q, none⟩)) (c0 : w.cell? ⟨b, q, none⟩ = some v0) (c1 : w.cell? ⟨b, q + 1, none⟩ = some v1) : (execOp ρ o).run Yba.prog w = .ok (.value (.agg #[v0, v1])) w := by
  have u35 := Yba.underlying35
  have u30 := Yba.underlying30
  have u33 := Yba.underlying33
  have u21 := Yba.underlying21
  unfold execOp; rw [ho]; simp only; go_simp
theorem r_ld35z (x : Operand) (ho : o.op = .load 35 x) {b : Nat} {v0 v1 : Value} (h : ρ x = .pointer (some ⟨b, 0, none⟩)) (c0 : w.cell? ⟨b, 0, none⟩ = some v0) (c1 : w.cell? ⟨b, 1, none⟩ = some v1) : (execOp ρ o).run Yba.prog w = .ok (.value (.agg #[v0, v1])) w := by
  have u35 := Yba.underlying35
  have u30 := Yba.underlying30
  have u33 := Yba.underlying33
  have u21 := Yba.underlying21
  unfold execOp; rw [ho]; simp only; go_simp
theorem r_al35 (ho : o.op = .alloc 35) : (execOp ρ o).run Yba.prog w = .ok (.value (ptr w.heap.size)) (w.alloc (.cells #[.int .u32 0, .slice none 0 0] 35)) := by
  unfold ptr
  have u35 := Yba.underlying35
  have u30 := Yba.underlying30
  have u33 := Yba.underlying33
  have u21 := Yba.underlying21
  unfold execOp; rw [ho]; simp only; go_simp
theorem r_st35 (x y : Operand) (ho : o.op = .store 35 x y) {z0 : Int} {p1 : Option Addr} {m1 c1 : Nat} (h : ρ x = ptr w.heap.size) (h' : ρ y = .agg #[.int .u32 z0, .slice p1 m1 c1]) : (execOp ρ o).run Yba.prog (w.alloc (.cells #[.int .u32 0, .slice none 0 0] 35)) = .ok .skip (w.alloc (.cells #[.int .u32 z0, .slice p1 m1 c1] 35)) := by
  unfold ptr at *
  have u35 := Yba.underlying35
  have u30 := Yba.underlying30
  have u33 := Yba.underlying33
  have u21 := Yba.underlying21
  unfold execOp; rw [ho]; simp only; go_simp
theorem r_len31 (x : Operand) (ho : o.op = .call { callee := .builtin .len, args := #[x], argTypes := #[31] }) {b : Option Addr} {n c : Nat} (h : ρ x = .slice b n c) : (execOp ρ o).run Yba.prog w = .ok (.value (.int .i64 n)) w := by
  have u31 := Yba.underlying31
  unfold execOp; rw [ho]; simp only; go_simp
theorem r_fo35_0 (x : Operand) (ho : o.op = .fieldAddr 35 x 0) {b : Nat} (h : ρ x = .pointer (some ⟨b, 0, none⟩)) : (execOp ρ o).run Yba.prog w = .ok (.value (.pointer (some ⟨b, 0, none⟩))) w := by
  have u35 := Yba.underlying35
  unfold execOp; rw [ho]; simp only; go_simp
theorem r_fa35_0 (x : Operand) (ho : o.op = .fieldAddr 35 x 0) {b q : Nat} (h : ρ x = .pointer (some ⟨b, q, none⟩)) : (execOp ρ o).run Yba.prog w = .ok (.value (.pointer (some ⟨b, q, none⟩))) w := by
  have u35 := Yba.underlying35
  unfold execOp; rw [ho]; simp only; go_simp
theorem r_ld30 (x : Operand) (ho : o.op = .load 30 x) {b q : Nat} (h : ρ x = .pointer (some ⟨b, q, none⟩)) {v : Value} (hc : w.cell? ⟨b, q, none⟩ = some v) : (execOp ρ o).run Yba.prog w = .ok (.value v) w := by
  have u30 := Yba.underlying30
  unfold execOp; rw [ho]; simp only; go_simp
theorem r_cn21_36 (p : Operand) (ho : o.op = .convert 21 36 p) {m : Nat} (hm : m < 2147483648) (h : ρ p = .int .i32 m) : (execOp ρ o).run Yba.prog w = .ok (.value (.int .u64 m)) w := by
  have u21 := Yba.underlying21
  have u36 := Yba.underlying36
  have hw : IntKind.u64.wrap (m : Int) = m := by rw [IntKind.wrap_u64]; omega
  unfold execOp; rw [ho]; simp only; go_simp
theorem r_cv21_36 (p : Operand) (ho : o.op = .convert 21 36 p) {x z : Int} (hw : IntKind.u64.wrap x = z) (h : ρ p = .int .i32 x) : (execOp ρ o).run Yba.prog w = .ok (.value (.int .u64 z)) w := by
  have u21 := Yba.underlying21
  have u36 := Yba.underlying36
  unfold execOp; rw [ho]; simp only; go_simp
theorem r_eql30 (p q : Operand) (ho : o.op = .binOp .eql 30 p q 30) {x y : Int} (h : ρ p = .int .u32 x) (h' : ρ q = .int .u32 y) : (execOp ρ o).run Yba.prog w = .ok (.value (.bool (decide (x = y)))) w := by
  have u30 := Yba.underlying30
  have e : (x == y) = decide (x = y) := by by_cases e : x = y <;> simp [e]
  unfold execOp; rw [ho]; simp only; go_simp
theorem r_fo35_1 (x : Operand) (ho : o.op = .fieldAddr 35 x 1) {b : Nat} (h : ρ x = .pointer (some ⟨b, 0, none⟩)) : (execOp ρ o).run Yba.prog w = .ok (.value (.pointer (some ⟨b, 1, none⟩))) w := by
  have u35 := Yba.underlying35
  unfold execOp; rw [ho]; simp only; go_simp
theorem r_fa35_1 (x : Operand) (ho : o.op = .fieldAddr 35 x 1) {b q : Nat} (h : ρ x = .pointer (some ⟨b, q, none⟩)) : (execOp ρ o).run Yba.prog w = .ok (.value (.pointer (some ⟨b, q + 1, none⟩))) w := by
  have u35 := Yba.underlying35
  unfold execOp; rw [ho]; simp only; go_simp
theorem r_ld33 (x : Operand) (ho : o.op = .load 33 x) {b q : Nat} (h : ρ x = .pointer (some ⟨b, q, none⟩)) {v : Value} (hc : w.cell? ⟨b, q, none⟩ = some v) : (execOp ρ o).run Yba.prog w = .ok (.value v) w := by
  have u33 := Yba.underlying33
  unfold execOp; rw [ho]; simp only; go_simp
theorem r_len33 (x : Operand) (ho : o.op = .call { callee := .builtin .len, args := #[x], argTypes := #[33] }) {b : Option Addr} {n c : Nat} (h : ρ x = .slice b n c) : (execOp ρ o).run Yba.prog w = .ok (.value (.int .i64 n)) w := by
  have u33 := Yba.underlying33
  unfold execOp; rw [ho]; simp only; go_simp
theorem r_rem3 (p q : Operand) (ho : o.op = .binOp .rem 3 p q 3) {x y : Nat} (hy : 0 < y) (h : ρ p = .int .i64 x) (h' : ρ q = .int .i64 y) : (execOp ρ o).run Yba.prog w = .ok (.value (.int .i64 (x % y : Nat))) w := by
  have u3 := Yba.underlying3
  have h0 : ¬ y = 0 := by omega
  unfold execOp; rw [ho]; simp only; go_simp
  rw [Int.tmod_eq_emod_of_nonneg (by omega)]
theorem r_ix33z (x y : Operand) (ho : o.op = .indexAddr 33 x y) {b n c i : Nat} {k : IntKind} (hi : i < n) (h : ρ x = .slice (some ⟨b, 0, none⟩) n c) (h' : ρ y = .int k i) : (execOp ρ o).run Yba.prog w = .ok (.value (.pointer (some ⟨b, i, none⟩))) w := by
  have u33 := Yba.underlying33
  have u21 := Yba.underlying21
  have h0 : (0 : Int) ≤ i := by omega
  have h1 : (i : Int) < n := by omega
  unfold execOp; rw [ho]; simp only; go_simp
theorem r_ix33 (x y : Operand) (ho : o.op = .indexAddr 33 x y) {b q n c i : Nat} {k : IntKind} (hi : i < n) (h : ρ x = .slice (some ⟨b, q, none⟩) n c) (h' : ρ y = .int k i) : (execOp ρ o).run Yba.prog w = .ok (.value (.pointer (some ⟨b, q + i, none⟩))) w := by
  have u33 := Yba.underlying33
  have u21 := Yba.underlying21
  have h0 : (0 : Int) ≤ i := by omega
  have h1 : (i : Int) < n := by omega
  unfold execOp; rw [ho]; simp only; go_simp
theorem r_b38_01 (x0 x1 : Operand) (ho : o.op = .build 38 #[(0, x0), (1, x1)]) {z0_0 : Int} {z1_0 : Int} (h0 : ρ x0 = .int .i32 z0_0) (h1 : ρ x1 = .int .i32 z1_0) : (execOp ρ o).run Yba.prog w = .ok (.value (.agg #[.int .i32 z0_0, .int .i32 z1_0])) w := by
  have u38 := Yba.underlying38
  have u21 := Yba.underlying21
  unfold execOp; rw [ho]; simp only; go_simp
theorem r_bsl31 (x : Operand) (ho : o.op = .buildSlice 31 1 #[(0, x)]) {v0 v1 : Value} (h : ρ x = .agg #[v0, v1]) : (execOp ρ o).run Yba.prog w = .ok (.value (.slice (some ⟨w.heap.size, 0, none⟩) 1 1)) (w.alloc (.cells #[v0, v1] 38)) := by
  have u31 := Yba.underlying31
  have u38 := Yba.underlying38
  have u21 := Yba.underlying21
  unfold execOp; rw [ho]; simp only; go_simp
theorem r_inc3 (x : Operand) (ho : o.op = .binOp .add 3 x (.const (.int .i64 1)) 3) {m : Nat} (hm : m ≤ 1000000) (h : ρ x = .int .i64 m) (hk : ρ (.const (.int .i64 1)) = .int .i64 1) : (execOp ρ o).run Yba.prog w = .ok (.value (.int .i64 ((m + 1 : Nat) : Int))) w := by
  have u3 := Yba.underlying3
  have hw : IntKind.i64.wrap ((m : Int) + 1) = ((m + 1 : Nat) : Int) := by rw [IntKind.wrap_i64]; omega
  unfold execOp; rw [ho]; simp only; go_simp
theorem r_b40_01 (x0 x1 : Operand) (ho : o.op = .build 40 #[(0, x0), (1, x1)]) {z0_0 : Int} {z1_0 : Int} (h0 : ρ x0 = .int .i32 z0_0) (h1 : ρ x1 = .int .i32 z1_0) : (execOp ρ o).run Yba.prog w = .ok (.value (.agg #[.int .i32 z0_0, .int .i32 z1_0])) w := by
  have u40 := Yba.underlying40
  have u21 := Yba.underlying21
  unfold execOp; rw [ho]; simp only; go_simp
theorem r_bsl32 (x : Operand) (ho : o.op = .buildSlice 32 1 #[(0, x)]) {v0 v1 : Value} (h : ρ x = .agg #[v0, v1]) : (execOp ρ o).run Yba.prog w = .ok (.value (.slice (some ⟨w.heap.size, 0, none⟩) 1 1)) (w.alloc (.cells #[v0, v1] 40)) := by
  have u32 := Yba.underlying32
  have u40 := Yba.underlying40
  have u21 := Yba.underlying21
  unfold execOp; rw [ho]; simp only; go_simp
theorem r_ix24z (x y : Operand) (ho : o.op = .indexAddr 24 x y) {b n c i : Nat} {k : IntKind} (hi : i < n) (h : ρ x = .slice (some ⟨b, 0, none⟩) n c) (h' : ρ y = .int k i) : (execOp ρ o).run Yba.prog w = .ok (.value (.pointer (some ⟨b, i * 4, none⟩))) w := by
  have u24 := Yba.underlying24
  have u44 := Yba.underlying44
  have h0 : (0 : Int) ≤ i := by omega
  have h1 : (i : Int) < n := by omega
  unfold execOp; rw [ho]; simp only; go_simp
theorem r_ix24 (x y : Operand) (ho : o.op = .indexAddr 24 x y) {b q n c i : Nat} {k : IntKind} (hi : i < n) (h : ρ x = .slice (some ⟨b, q, none⟩) n c) (h' : ρ y = .int k i) : (execOp ρ o).run Yba.prog w = .ok (.value (.pointer (some ⟨b, q + i * 4, none⟩))) w := by
  have u24 := Yba.underlying24
  have u44 := Yba.underlying44
  have h0 : (0 : Int) ≤ i := by omega
  have h1 : (i : Int) < n := by omega
  unfold execOp; rw [ho]; simp only; go_simp
theorem r_ld44 (x : Operand) (ho : o.op = .load 44 x) {b q : Nat} {v0 v1 v2 v3 : Value} (h : ρ x = .pointer (some ⟨b, q, none⟩)) (c0 : w.cell? ⟨b, q, none⟩ = some v0) (c1 : w.cell? ⟨b, q + 1, none⟩ = some v1) (c2 : w.cell? ⟨b, q + 2, none⟩ = some v2) (c3 : w.cell? ⟨b, q + 3, none⟩ = some v3) : (execOp ρ o).run Yba.prog w = .ok (.value (.agg #[v0, v1, v2, v3])) w := by
  have u44 := Yba.underlying44
  have u21 := Yba.underlying21
  have u4 := Yba.underlying4
  unfold execOp; rw [ho]; simp only; go_simp
theorem r_ld44z (x : Operand) (ho : o.op = .load 44 x) {b : Nat} {v0 v1 v2 v3 : Value} (h : ρ x = .pointer (some ⟨b, 0, none⟩)) (c0 : w.cell? ⟨b, 0, none⟩ = some v0) (c1 : w.cell? ⟨b, 1, none⟩ = some v1) (c2 : w.cell? ⟨b, 2, none⟩ = some v2) (c3 : w.cell? ⟨b, 3, none⟩ = some v3) : (execOp ρ o).run Yba.prog w = .ok (.value (.agg #[v0, v1, v2, v3])) w := by
  have u44 := Yba.underlying44
  have u21 := Yba.underlying21
  have u4 := Yba.underlying4
  unfold execOp; rw [ho]; simp only; go_simp
theorem r_al44 (ho : o.op = .alloc 44) : (execOp ρ o).run Yba.prog w = .ok (.value (ptr w.heap.size)) (w.alloc (.cells #[.int .i32 0, .int .i32 0, .int .i32 0, .bool false] 44)) := by
  unfold ptr
  have u44 := Yba.underlying44
  have u21 := Yba.underlying21
  have u4 := Yba.underlying4
  unfold execOp; rw [ho]; simp only; go_simp
theorem r_st44 (x y : Operand) (ho : o.op = .store 44 x y) {z0 : Int} {z1 : Int} {z2 : Int} {z3 : Bool} (h : ρ x = ptr w.heap.size) (h' : ρ y = .agg #[.int .i32 z0, .int .i32 z1, .int .i32 z2, .bool z3]) : (execOp ρ o).run Yba.prog (w.alloc (.cells #[.int .i32 0, .int .i32 0, .int .i32 0, .bool false] 44)) = .ok .skip (w.alloc (.cells #[.int .i32 z0, .int .i32 z1, .int .i32 z2, .bool z3] 44)) := by
  unfold ptr at *
  have u44 := Yba.underlying44
  have u21 := Yba.underlying21
  have u4 := Yba.underlying4
  unfold execOp; rw [ho]; simp only; go_simp
theorem r_fo44_0 (x : Operand) (ho : o.op = .fieldAddr 44 x 0) {b : Nat} (h : ρ x = .pointer (some ⟨b, 0, none⟩)) : (execOp ρ o).run Yba.prog w = .ok (.value (.pointer (some ⟨b, 0, none⟩))) w := by
  have u44 := Yba.underlying44
  unfold execOp; rw [ho]; simp only; go_simp
theorem r_fa44_0 (x : Operand) (ho : o.op = .fieldAddr 44 x 0) {b q : Nat} (h : ρ x = .pointer (some ⟨b, q, none⟩)) : (execOp ρ o).run Yba.prog w = .ok (.value (.pointer (some ⟨b, q, none⟩))) w := by
  have u44 := Yba.underlying44
  unfold execOp; rw [ho]; simp only; go_simp
theorem r_ix42z (x y : Operand) (ho : o.op = .indexAddr 42 x y) {b n c i : Nat} {k : IntKind} (hi : i < n) (h : ρ x = .slice (some ⟨b, 0, none⟩) n c) (h' : ρ y = .int k i) : (execOp ρ o).run Yba.prog w = .ok (.value (.pointer (some ⟨b, i, none⟩))) w := by
  have u42 := Yba.underlying42
  have u4 := Yba.underlying4
  have h0 : (0 : Int) ≤ i := by omega
  have h1 : (i : Int) < n := by omega
  unfold execOp; rw [ho]; simp only; go_simp
theorem r_ix42 (x y : Operand) (ho : o.op = .indexAddr 42 x y) {b q n c i : Nat} {k : IntKind} (hi : i < n) (h : ρ x = .slice (some ⟨b, q, none⟩) n c) (h' : ρ y = .int k i) : (execOp ρ o).run Yba.prog w = .ok (.value (.pointer (some ⟨b, q + i, none⟩))) w := by
  have u42 := Yba.underlying42
  have u4 := Yba.underlying4
  have h0 : (0 : Int) ≤ i := by omega
  have h1 : (i : Int) < n := by omega
  unfold execOp; rw [ho]; simp only; go_simp
theorem r_ld4 (x : Operand) (ho : o.op = .load 4 x) {b q : Nat} (h : ρ x = .pointer (some ⟨b, q, none⟩)) {v : Value} (hc : w.cell? ⟨b, q, none⟩ = some v) : (execOp ρ o).run Yba.prog w = .ok (.value v) w := by
  have u4 := Yba.underlying4
  unfold execOp; rw [ho]; simp only; go_simp
theorem r_sto4 (x y : Operand) (ho : o.op = .store 4 x y) {b q : Nat} {z : Bool} {v' : Value} (h : ρ x = .pointer (some ⟨b, q, none⟩)) (h' : ρ y = .bool z) (hc : w.cell? ⟨b, q, none⟩ = some v') (hz : w.frozen? ⟨b, q, none⟩ = false) : (execOp ρ o).run Yba.prog w = .ok .skip (w.setCell ⟨b, q, none⟩ (.bool z)) := by
  have u4 := Yba.underlying4
  unfold execOp; rw [ho]; simp only; go_simp
theorem r_fo44_1 (x : Operand) (ho : o.op = .fieldAddr 44 x 1) {b : Nat} (h : ρ x = .pointer (some ⟨b, 0, none⟩)) : (execOp ρ o).run Yba.prog w = .ok (.value (.pointer (some ⟨b, 1, none⟩))) w := by
  have u44 := Yba.underlying44
  unfold execOp; rw [ho]; simp only; go_simp
theorem r_fa44_1 (x : Operand) (ho : o.op = .fieldAddr 44 x 1) {b q : Nat} (h : ρ x = .pointer (some ⟨b, q, none⟩)) : (execOp ρ o).run Yba.prog w = .ok (.value (.pointer (some ⟨b, q + 1, none⟩))) w := by
  have u44 := Yba.underlying44
  unfold execOp; rw [ho]; simp only; go_simp
theorem r_fo44_2 (x : Operand) (ho : o.op = .fieldAddr 44 x 2) {b : Nat} (h : ρ x = .pointer (some ⟨b, 0, none⟩)) : (execOp ρ o).run Yba.prog w = .ok (.value (.pointer (some ⟨b, 2, none⟩))) w := by
  have u44 := Yba.underlying44
  unfold execOp; rw [ho]; simp only; go_simp
theorem r_fa44_2 (x : Operand) (ho : o.op = .fieldAddr 44 x 2) {b q : Nat} (h : ρ x = .pointer (some ⟨b, q, none⟩)) : (execOp ρ o).run Yba.prog w = .ok (.value (.pointer (some ⟨b, q + 2, none⟩))) w := by
  have u44 := Yba.underlying44
  unfold execOp; rw [ho]; simp only; go_simp
theorem r_fo44_3 (x : Operand) (ho : o.op = .fieldAddr 44 x 3) {b : Nat} (h : ρ x = .pointer (some ⟨b, 0, none⟩)) : (execOp ρ o).run Yba.prog w = .ok (.value (.pointer (some ⟨b, 3, none⟩))) w := by
  have u44 := Yba.underlying44
  unfold execOp; rw [ho]; simp only; go_simp
theorem r_fa44_3 (x : Operand) (ho : o.op = .fieldAddr 44 x 3) {b q : Nat} (h : ρ x = .pointer (some ⟨b, q, none⟩)) : (execOp ρ o).run Yba.prog w = .ok (.value (.pointer (some ⟨b, q + 3, none⟩))) w := by
  have u44 := Yba.underlying44
  unfold execOp; rw [ho]; simp only; go_simp
theorem r_b46_0123 (x0 x1 x2 x3 : Operand) (ho : o.op = .build 46 #[(0, x0), (1, x1), (2, x2), (3, x3)]) {z0_0 : Int} {z1_0 : Int} {z2_0 : Int} {z3_0 : Bool} (h0 : ρ x0 = .int .i32 z0_0) (h1 : ρ x1 = .int .i32 z1_0) (h2 : ρ x2 = .int .i32 z2_0) (h3 : ρ x3 = .bool z3_0) : (execOp ρ o).run Yba.prog w = .ok (.value (.agg #[.int .i32 z0_0, .int .i32 z1_0, .int .i32 z2_0, .bool z3_0])) w := by
  have u46 := Yba.underlying46
  have u21 := Yba.underlying21
  have u4 := Yba.underlying4
  unfold execOp; rw [ho]; simp only; go_simp
theorem r_bsl41 (x : Operand) (ho : o.op = .buildSlice 41 1 #[(0, x)]) {v0 v1 v2 v3 : Value} (h : ρ x = .agg #[v0, v1, v2, v3]) : (execOp ρ o).run Yba.prog w = .ok (.value (.slice (some ⟨w.heap.size, 0, none⟩) 1 1)) (w.alloc (.cells #[v0, v1, v2, v3] 46)) := by
  have u41 := Yba.underlying41
  have u46 := Yba.underlying46
  have u21 := Yba.underlying21
  have u4 := Yba.underlying4
  unfold execOp; rw [ho]; simp only; go_simp
theorem r_len41 (x : Operand) (ho : o.op = .call { callee := .builtin .len, args := #[x], argTypes := #[41] }) {b : Option Addr} {n c : Nat} (h : ρ x = .slice b n c) : (execOp ρ o).run Yba.prog w = .ok (.value (.int .i64 n)) w := by
  have u41 := Yba.underlying41
  unfold execOp; rw [ho]; simp only; go_simp
theorem r_ix41z (x y : Operand) (ho : o.op = .indexAddr 41 x y) {b n c i : Nat} {k : IntKind} (hi : i < n) (h : ρ x = .slice (some ⟨b, 0, none⟩) n c) (h' : ρ y = .int k i) : (execOp ρ o).run Yba.prog w = .ok (.value (.pointer (some ⟨b, i * 4, none⟩))) w := by
  have u41 := Yba.underlying41
  have u46 := Yba.underlying46
  have h0 : (0 : Int) ≤ i := by omega
  have h1 : (i : Int) < n := by omega
  unfold execOp; rw [ho]; simp only; go_simp
theorem r_ix41 (x y : Operand) (ho : o.op = .indexAddr 41 x y) {b q n c i : Nat} {k : IntKind} (hi : i < n) (h : ρ x = .slice (some ⟨b, q, none⟩) n c) (h' : ρ y = .int k i) : (execOp ρ o).run Yba.prog w = .ok (.value (.pointer (some ⟨b, q + i * 4, none⟩))) w := by
  have u41 := Yba.underlying41
  have u46 := Yba.underlying46
  have h0 : (0 : Int) ≤ i := by omega
  have h1 : (i : Int) < n := by omega
  unfold execOp; rw [ho]; simp only; go_simp
theorem r_ld46 (x : Operand) (ho : o.op = .load 46 x) {b q : Nat} {v0 v1 v2 v3 : Value} (h : ρ x = .pointer (some ⟨b, q, none⟩)) (c0 : w.cell? ⟨b, q, none⟩ = some v0) (c1 : w.cell? ⟨b, q + 1, none⟩ = some v1) (c2 : w.cell? ⟨b, q + 2, none⟩ = some v2) (c3 : w.cell? ⟨b, q + 3, none⟩ = some v3) : (execOp ρ o).run Yba.prog w = .ok (.value (.agg #[v0, v1, v2, v3])) w := by
  have u46 := Yba.underlying46
  have u21 := Yba.underlying21
  have u4 := Yba.underlying4
  unfold execOp; rw [ho]; simp only; go_simp
theorem r_ld46z (x : Operand) (ho : o.op = .load 46 x) {b : Nat} {v0 v1 v2 v3 : Value} (h : ρ x = .pointer (some ⟨b, 0, none⟩)) (c0 : w.cell? ⟨b, 0, none⟩ = some v0) (c1 : w.cell? ⟨b, 1, none⟩ = some v1) (c2 : w.cell? ⟨b, 2, none⟩ = some v2) (c3 : w.cell? ⟨b, 3, none⟩ = some v3) : (execOp ρ o).run Yba.prog w = .ok (.value (.agg #[v0, v1, v2, v3])) w := by
  have u46 := Yba.underlying46
  have u21 := Yba.underlying21
  have u4 := Yba.underlying4
  unfold execOp; rw [ho]; simp only; go_simp
theorem r_al46 (ho : o.op = .alloc 46) : (execOp ρ o).run Yba.prog w = .ok (.value (ptr w.heap.size)) (w.alloc (.cells #[.int .i32 0, .int .i32 0, .int .i32 0, .bool false] 46)) := by
  unfold ptr
  have u46 := Yba.underlying46
  have u21 := Yba.underlying21
  have u4 := Yba.underlying4
  unfold execOp; rw [ho]; simp only; go_simp
theorem r_st46 (x y : Operand) (ho : o.op = .store 46 x y) {z0 : Int} {z1 : Int} {z2 : Int} {z3 : Bool} (h : ρ x = ptr w.heap.size) (h' : ρ y = .agg #[.int .i32 z0, .int .i32 z1, .int .i32 z2, .bool z3]) : (execOp ρ o).run Yba.prog (w.alloc (.cells #[.int .i32 0, .int .i32 0, .int .i32 0, .bool false] 46)) = .ok .skip (w.alloc (.cells #[.int .i32 z0, .int .i32 z1, .int .i32 z2, .bool z3] 46)) := by
  unfold ptr at *
  have u46 := Yba.underlying46
  have u21 := Yba.underlying21
  have u4 := Yba.underlying4
  unfold execOp; rw [ho]; simp only; go_simp
theorem r_fo46_0 (x : Operand) (ho : o.op = .fieldAddr 46 x 0) {b : Nat} (h : ρ x = .pointer (some ⟨b, 0, none⟩)) : (execOp ρ o).run Yba.prog w = .ok (.value (.pointer (some ⟨b, 0, none⟩))) w := by
  have u46 := Yba.underlying46
  unfold execOp; rw [ho]; simp only; go_simp
theorem r_fa46_0 (x : Operand) (ho : o.op = .fieldAddr 46 x 0) {b q : Nat} (h : ρ x = .pointer (some ⟨b, q, none⟩)) : (execOp ρ o).run Yba.prog w = .ok (.value (.pointer (some ⟨b, q, none⟩))) w := by
  have u46 := Yba.underlying46
  unfold execOp; rw [ho]; simp only; go_simp
theorem r_sto21 (x y : Operand) (ho : o.op = .store 21 x y) {b q : Nat} {z : Int} {v' : Value} (h : ρ x = .pointer (some ⟨b, q, none⟩)) (h' : ρ y = .int .i32 z) (hc : w.cell? ⟨b, q, none⟩ = some v') (hz : w.frozen? ⟨b, q, none⟩ = false) : (execOp ρ o).run Yba.prog w = .ok .skip (w.setCell ⟨b, q, none⟩ (.int .i32 z)) := by
  have u21 := Yba.underlying21
  unfold execOp; rw [ho]; simp only; go_simp
theorem r_call5 (x0 : Operand) (ho : o.op = .call { callee := .value (.func 5), args := #[x0], argTypes := #[31] }) (hf : ρ (.func 5) = .func (.func 5) #[] #[]) {a0 : Value} (h0 : ρ x0 = a0) : (execOp ρ o).run Yba.prog w = .ok (.enter 5 #[a0]) w := by
  unfold execOp; rw [ho]; simp only; go_simp
theorem r_call6 (x0 : Operand) (ho : o.op = .call { callee := .value (.func 6), args := #[x0], argTypes := #[32] }) (hf : ρ (.func 6) = .func (.func 6) #[] #[]) {a0 : Value} (h0 : ρ x0 = a0) : (execOp ρ o).run Yba.prog w = .ok (.enter 6 #[a0]) w := by
  unfold execOp; rw [ho]; simp only; go_simp
theorem r_call7 (x0 : Operand) (ho : o.op = .call { callee := .value (.func 7), args := #[x0], argTypes := #[25] }) (hf : ρ (.func 7) = .func (.func 7) #[] #[]) {a0 : Value} (h0 : ρ x0 = a0) : (execOp ρ o).run Yba.prog w = .ok (.enter 7 #[a0]) w := by
  unfold execOp; rw [ho]; simp only; go_simp
theorem r_call8 (x0 : Operand) (ho : o.op = .call { callee := .value (.func 8), args := #[x0], argTypes := #[41] }) (hf : ρ (.func 8) = .func (.func 8) #[] #[]) {a0 : Value} (h0 : ρ x0 = a0) : (execOp ρ o).run Yba.prog w = .ok (.enter 8 #[a0]) w := by
  unfold execOp; rw [ho]; simp only; go_simp
theorem r_b53_01 (x0 x1 : Operand) (ho : o.op = .build 53 #[(0, x0), (1, x1)]) {p0_0 : Option Addr} {m0_0 c0_0 : Nat} {p1_0 : Option Addr} {m1_0 c1_0 : Nat} (h0 : ρ x0 = .slice p0_0 m0_0 c0_0) (h1 : ρ x1 = .slice p1_0 m1_0 c1_0) : (execOp ρ o).run Yba.prog w = .ok (.value (.agg #[.slice p0_0 m0_0 c0_0, .slice p1_0 m1_0 c1_0, .slice none 0 0])) w := by
  have u53 := Yba.underlying53
  have u31 := Yba.underlying31
  have u38 := Yba.underlying38
  have u32 := Yba.underlying32
  have u40 := Yba.underlying40
  unfold execOp; rw [ho]; simp only; go_simp
theorem r_b56_1291012c (x0 x1 x2 x3 : Operand) (ho : o.op = .build 56 #[(1, x0), (2, x1), (9, x2), (10, x3), (12, .const (.int .i32 1))]) {p0_0 : Option Addr} {m0_0 c0_0 : Nat} {p0_1 : Option Addr} {m0_1 c0_1 : Nat} {p0_2 : Option Addr} {m0_2 c0_2 : Nat} {p1_0 : Option Addr} {m1_0 c1_0 : Nat} {p2_0 : Option Addr} {m2_0 c2_0 : Nat} {p3_0 : Option Addr} {m3_0 c3_0 : Nat} (h0 : ρ x0 = .agg #[.slice p0_0 m0_0 c0_0, .slice p0_1 m0_1 c0_1, .slice p0_2 m0_2 c0_2]) (h1 : ρ x1 = .slice p1_0 m1_0 c1_0) (h2 : ρ x2 = .slice p2_0 m2_0 c2_0) (h3 : ρ x3 = .slice p3_0 m3_0 c3_0) (k4 : ρ (.const (.int .i32 1)) = .int .i32 1) : (execOp ρ o).run Yba.prog w = .ok (.value (.agg #[.slice none 0 0, .slice none 0 0, .slice none 0 0, .slice p0_0 m0_0 c0_0, .slice p0_1 m0_1 c0_1, .slice p0_2 m0_2 c0_2, .slice p1_0 m1_0 c1_0, .slice none 0 0, .slice none 0 0, .slice none 0 0, .int .i64 0, .bool false, .slice none 0 0, .slice p2_0 m2_0 c2_0, .slice p3_0 m3_0 c3_0, .slice none 0 0, .int .i32 1, .slice none 0 0, .slice none 0 0])) w := by
  have u56 := Yba.underlying56
  have u53 := Yba.underlying53
  have u31 := Yba.underlying31
  have u38 := Yba.underlying38
  have u32 := Yba.underlying32
  have u40 := Yba.underlying40
  have u25 := Yba.underlying25
  have u27 := Yba.underlying27
  have u54 := Yba.underlying54
  have u33 := Yba.underlying33
  have u21 := Yba.underlying21
  have u3 := Yba.underlying3
  have u4 := Yba.underlying4
  have u41 := Yba.underlying41
  have u46 := Yba.underlying46
  unfold execOp; rw [ho]; simp only; go_simp
theorem r_box56 (x : Operand) (ho : o.op = .box 56 x) {cs : Array Value} (h : ρ x = .agg cs) : (execOp ρ o).run Yba.prog w = .ok (.value (ptr w.heap.size)) (w.alloc (.cells cs 56)) := by
  unfold ptr
  unfold execOp; rw [ho]; simp only; go_simp
theorem r_cn5_30 (p : Operand) (ho : o.op = .convert 5 30 p) {m : Nat} (hm : m < 2147483648) (h : ρ p = .int .u8 m) : (execOp ρ o).run Yba.prog w = .ok (.value (.int .u32 m)) w := by
  have u5 := Yba.underlying5
  have u30 := Yba.underlying30
  have hw : IntKind.u32.wrap (m : Int) = m := by rw [IntKind.wrap_u32]; omega
  unfold execOp; rw [ho]; simp only; go_simp
theorem r_cv5_30 (p : Operand) (ho : o.op = .convert 5 30 p) {x z : Int} (hw : IntKind.u32.wrap x = z) (h : ρ p = .int .u8 x) : (execOp ρ o).run Yba.prog w = .ok (.value (.int .u32 z)) w := by
  have u5 := Yba.underlying5
  have u30 := Yba.underlying30
  unfold execOp; rw [ho]; simp only; go_simp
theorem r_len32 (x : Operand) (ho : o.op = .call { callee := .builtin .len, args := #[x], argTypes := #[32] }) {b : Option Addr} {n c : Nat} (h : ρ x = .slice b n c) : (execOp ρ o).run Yba.prog w = .ok (.value (.int .i64 n)) w := by
  have u32 := Yba.underlying32
  unfold execOp; rw [ho]; simp only; go_simp
theorem r_b40_0c1 (x1 : Operand) (ho : o.op = .build 40 #[(0, .const (.int .i32 0)), (1, x1)]) {z1_0 : Int} (k0 : ρ (.const (.int .i32 0)) = .int .i32 0) (h1 : ρ x1 = .int .i32 z1_0) : (execOp ρ o).run Yba.prog w = .ok (.value (.agg #[.int .i32 0, .int .i32 z1_0])) w := by
  have u40 := Yba.underlying40
  have u21 := Yba.underlying21
  unfold execOp; rw [ho]; simp only; go_simp
theorem r_b58_0123 (x0 x1 x2 x3 : Operand) (ho : o.op = .build 58 #[(0, x0), (1, x1), (2, x2), (3, x3)]) {p0_0 : Option Addr} {z1_0 : Int} {z1_1 : Int} {z2_0 : Int} {z2_1 : Int} {z3_0 : Int} (h0 : ρ x0 = .pointer p0_0) (h1 : ρ x1 = .agg #[.int .i32 z1_0, .int .i32 z1_1]) (h2 : ρ x2 = .agg #[.int .i32 z2_0, .int .i32 z2_1]) (h3 : ρ x3 = .int .i32 z3_0) : (execOp ρ o).run Yba.prog w = .ok (.value (.agg #[.pointer p0_0, .int .i32 z1_0, .int .i32 z1_1, .int .i32 z2_0, .int .i32 z2_1, .int .i32 z3_0])) w := by
  have u58 := Yba.underlying58
  have u51 := Yba.underlying51
  have u40 := Yba.underlying40
  have u21 := Yba.underlying21
  have u38 := Yba.underlying38
  unfold execOp; rw [ho]; simp only; go_simp
theorem r_al58 (ho : o.op = .alloc 58) : (execOp ρ o).run Yba.prog w = .ok (.value (ptr w.heap.size)) (w.alloc (.cells #[.pointer none, .int .i32 0, .int .i32 0, .int .i32 0, .int .i32 0, .int .i32 0] 58)) := by
  unfold ptr
  have u58 := Yba.underlying58
  have u51 := Yba.underlying51
  have u40 := Yba.underlying40
  have u21 := Yba.underlying21
  have u38 := Yba.underlying38
  unfold execOp; rw [ho]; simp only; go_simp
theorem r_st58 (x y : Operand) (ho : o.op = .store 58 x y) {p0 : Option Addr} {z1 : Int} {z2 : Int} {z3 : Int} {z4 : Int} {z5 : Int} (h : ρ x = ptr w.heap.size) (h' : ρ y = .agg #[.pointer p0, .int .i32 z1, .int .i32 z2, .int .i32 z3, .int .i32 z4, .int .i32 z5]) : (execOp ρ o).run Yba.prog (w.alloc (.cells #[.pointer none, .int .i32 0, .int .i32 0, .int .i32 0, .int .i32 0, .int .i32 0] 58)) = .ok .skip (w.alloc (.cells #[.pointer p0, .int .i32 z1, .int .i32 z2, .int .i32 z3, .int .i32 z4, .int .i32 z5] 58)) := by
  unfold ptr at *
  have u58 := Yba.underlying58
  have u51 := Yba.underlying51
  have u40 := Yba.underlying40
  have u21 := Yba.underlying21
  have u38 := Yba.underlying38
  unfold execOp; rw [ho]; simp only; go_simp
theorem r_ld58 (x : Operand) (ho : o.op = .load 58 x) {b q : Nat} {v0 v1 v2 v3 v4 v5 : Value} (h : ρ x = .pointer (some ⟨b, q, none⟩)) (c0 : w.cell? ⟨b, q, none⟩ = some v0) (c1 : w.cell? ⟨b, q + 1, none⟩ = some v1) (c2 : w.cell? ⟨b, q + 2, none⟩ = some v2) (c3 : w.cell? ⟨b, q + 3, none⟩ = some v3) (c4 : w.cell? ⟨b, q + 4, none⟩ = some v4) (c5 : w.cell? ⟨b, q + 5, none⟩ = some v5) : (execOp ρ o).run Yba.prog w = .ok (.value (.agg #[v0, v1, v2, v3, v4, v5])) w := by
  have u58 := Yba.underlying58
  have u51 := Yba.underlying51
  have u40 := Yba.underlying40
  have u21 := Yba.underlying21
  have u38 := Yba.underlying38
  unfold execOp; rw [ho]; simp only; go_simp
theorem r_ld58z (x : Operand) (ho : o.op = .load 58 x) {b : Nat} {v0 v1 v2 v3 v4 v5 : Value} (h : ρ x = .pointer (some ⟨b, 0, none⟩)) (c0 : w.cell? ⟨b, 0, none⟩ = some v0) (c1 : w.cell? ⟨b, 1, none⟩ = some v1) (c2 : w.cell? ⟨b, 2, none⟩ = some v2) (c3 : w.cell? ⟨b, 3, none⟩ = some v3) (c4 : w.cell? ⟨b, 4, none⟩ = some v4) (c5 : w.cell? ⟨b, 5, none⟩ = some v5) : (execOp ρ o).run Yba.prog w = .ok (.value (.agg #[v0, v1, v2, v3, v4, v5])) w := by
  have u58 := Yba.underlying58
  have u51 := Yba.underlying51
  have u40 := Yba.underlying40
  have u21 := Yba.underlying21
  have u38 := Yba.underlying38
  unfold execOp; rw [ho]; simp only; go_simp
theorem r_b62_0124 (x0 x1 x2 x3 : Operand) (ho : o.op = .build 62 #[(0, x0), (1, x1), (2, x2), (4, x3)]) {p0_0 : Option Addr} {p1_0 : Option Addr} {z1_1 : Int} {z1_2 : Int} {z1_3 : Int} {z1_4 : Int} {z1_5 : Int} {z2_0 : Int} {z2_1 : Int} {z3_0 : Int} (h0 : ρ x0 = .pointer p0_0) (h1 : ρ x1 = .agg #[.pointer p1_0, .int .i32 z1_1, .int .i32 z1_2, .int .i32 z1_3, .int .i32 z1_4, .int .i32 z1_5]) (h2 : ρ x2 = .agg #[.int .i32 z2_0, .int .i32 z2_1]) (h3 : ρ x3 = .int .i32 z3_0) : (execOp ρ o).run Yba.prog w = .ok (.value (.agg #[.pointer p0_0, .pointer p1_0, .int .i32 z1_1, .int .i32 z1_2, .int .i32 z1_3, .int .i32 z1_4, .int .i32 z1_5, .int .i32 z2_0, .int .i32 z2_1, .slice none 0 0, .int .i32 z3_0])) w := by
  have u62 := Yba.underlying62
  have u51 := Yba.underlying51
  have u58 := Yba.underlying58
  have u40 := Yba.underlying40
  have u21 := Yba.underlying21
  have u38 := Yba.underlying38
  have u60 := Yba.underlying60
  unfold execOp; rw [ho]; simp only; go_simp
theorem r_box62 (x : Operand) (ho : o.op = .box 62 x) {cs : Array Value} (h : ρ x = .agg cs) : (execOp ρ o).run Yba.prog w = .ok (.value (ptr w.heap.size)) (w.alloc (.cells cs 62)) := by
  unfold ptr
  unfold execOp; rw [ho]; simp only; go_simp
theorem r_call9 (x0 x1 x2 : Operand) (ho : o.op = .call { callee := .value (.func 9), args := #[x0, x1, x2], argTypes := #[51, 58, 59] }) (hf : ρ (.func 9) = .func (.func 9) #[] #[]) {a0 a1 a2 : Value} (h0 : ρ x0 = a0) (h1 : ρ x1 = a1) (h2 : ρ x2 = a2) : (execOp ρ o).run Yba.prog w = .ok (.enter 9 #[a0, a1, a2]) w := by
  unfold execOp; rw [ho]; simp only; go_simp
theorem r_b66_01234567 (x0 x1 x2 x3 x4 x5 x6 x7 : Operand) (ho : o.op = .build 66 #[(0, x0), (1, x1), (2, x2), (3, x3), (4, x4), (5, x5), (6, x6), (7, x7)]) {p0_0 : Option Addr} {m0_0 c0_0 : Nat} {p1_0 : Option Addr} {m1_0 c1_0 : Nat} {z2_0 : Int} {z3_0 : Int} {z4_0 : Int} {z5_0 : Int} {z6_0 : Int} {z7_0 : Int} (h0 : ρ x0 = .slice p0_0 m0_0 c0_0) (h1 : ρ x1 = .slice p1_0 m1_0 c1_0) (h2 : ρ x2 = .int .i32 z2_0) (h3 : ρ x3 = .int .i32 z3_0) (h4 : ρ x4 = .int .i32 z4_0) (h5 : ρ x5 = .int .i32 z5_0) (h6 : ρ x6 = .int .i32 z6_0) (h7 : ρ x7 = .int .i32 z7_0) : (execOp ρ o).run Yba.prog w = .ok (.value (.agg #[.slice p0_0 m0_0 c0_0, .slice p1_0 m1_0 c1_0, .int .i32 z2_0, .int .i32 z3_0, .int .i32 z4_0, .int .i32 z5_0, .int .i32 z6_0, .int .i32 z7_0])) w := by
  have u66 := Yba.underlying66
  have u23 := Yba.underlying23
  have u35 := Yba.underlying35
  have u25 := Yba.underlying25
  have u27 := Yba.underlying27
  have u21 := Yba.underlying21
  unfold execOp; rw [ho]; simp only; go_simp
theorem r_box66 (x : Operand) (ho : o.op = .box 66 x) {cs : Array Value} (h : ρ x = .agg cs) : (execOp ρ o).run Yba.prog w = .ok (.value (ptr w.heap.size)) (w.alloc (.cells cs 66)) := by
  unfold ptr
  unfold execOp; rw [ho]; simp only; go_simp
theorem r_ld27 (x : Operand) (ho : o.op = .load 27 x) {b q : Nat} {v0 v1 v2 v3 : Value} (h : ρ x = .pointer (some ⟨b, q, none⟩)) (c0 : w.cell? ⟨b, q, none⟩ = some v0) (c1 : w.cell? ⟨b, q + 1, none⟩ = some v1) (c2 : w.cell? ⟨b, q + 2, none⟩ = some v2) (c3 : w.cell? ⟨b, q + 3, none⟩ = some v3) : (execOp ρ o).run Yba.prog w = .ok (.value (.agg #[v0, v1, v2, v3])) w := by
  have u27 := Yba.underlying27
  have u21 := Yba.underlying21
  unfold execOp; rw [ho]; simp only; go_simp
theorem r_ld27z (x : Operand) (ho : o.op = .load 27 x) {b : Nat} {v0 v1 v2 v3 : Value} (h : ρ x = .pointer (some ⟨b, 0, none⟩)) (c0 : w.cell? ⟨b, 0, none⟩ = some v0) (c1 : w.cell? ⟨b, 1, none⟩ = some v1) (c2 : w.cell? ⟨b, 2, none⟩ = some v2) (c3 : w.cell? ⟨b, 3, none⟩ = some v3) : (execOp ρ o).run Yba.prog w = .ok (.value (.agg #[v0, v1, v2, v3])) w := by
  have u27 := Yba.underlying27
  have u21 := Yba.underlying21
  unfold execOp; rw [ho]; simp only; go_simp
theorem r_al27 (ho : o.op = .alloc 27) : (execOp ρ o).run Yba.prog w = .ok (.value (ptr w.heap.size)) (w.alloc (.cells #[.int .i32 0, .int .i32 0, .int .i32 0, .int .i32 0] 27)) := by
  unfold ptr
  have u27 := Yba.underlying27
  have u21 := Yba.underlying21
  unfold execOp; rw [ho]; simp only; go_simp
theorem r_fo27_3 (x : Operand) (ho : o.op = .fieldAddr 27 x 3) {b : Nat} (h : ρ x = .pointer (some ⟨b, 0, none⟩)) : (execOp ρ o).run Yba.prog w = .ok (.value (.pointer (some ⟨b, 3, none⟩))) w := by
  have u27 := Yba.underlying27
  unfold execOp; rw [ho]; simp only; go_simp
theorem r_fa27_3 (x : Operand) (ho : o.op = .fieldAddr 27 x 3) {b q : Nat} (h : ρ x = .pointer (some ⟨b, q, none⟩)) : (execOp ρ o).run Yba.prog w = .ok (.value (.pointer (some ⟨b, q + 3, none⟩))) w := by
  have u27 := Yba.underlying27
  unfold execOp; rw [ho]; simp only; go_simp
theorem r_gtr21 (p q : Operand) (ho : o.op = .binOp .gtr 21 p q 21) {x y : Int} (h : ρ p = .int .i32 x) (h' : ρ q = .int .i32 y) : (execOp ρ o).run Yba.prog w = .ok (.value (.bool (decide (y < x)))) w := by
  have u21 := Yba.underlying21
  unfold execOp; rw [ho]; simp only; go_simp
theorem r_call10 (x0 x1 : Operand) (ho : o.op = .call { callee := .value (.func 10), args := #[x0, x1], argTypes := #[64, 21] }) (hf : ρ (.func 10) = .func (.func 10) #[] #[]) {a0 a1 : Value} (h0 : ρ x0 = a0) (h1 : ρ x1 = a1) : (execOp ρ o).run Yba.prog w = .ok (.enter 10 #[a0, a1]) w := by
  unfold execOp; rw [ho]; simp only; go_simp
theorem r_fo46_2 (x : Operand) (ho : o.op = .fieldAddr 46 x 2) {b : Nat} (h : ρ x = .pointer (some ⟨b, 0, none⟩)) : (execOp ρ o).run Yba.prog w = .ok (.value (.pointer (some ⟨b, 2, none⟩))) w := by
  have u46 := Yba.underlying46
  unfold execOp; rw [ho]; simp only; go_simp
theorem r_fa46_2 (x : Operand) (ho : o.op = .fieldAddr 46 x 2) {b q : Nat} (h : ρ x = .pointer (some ⟨b, q, none⟩)) : (execOp ρ o).run Yba.prog w = .ok (.value (.pointer (some ⟨b, q + 2, none⟩))) w := by
  have u46 := Yba.underlying46
  unfold execOp; rw [ho]; simp only; go_simp
theorem r_fo27_2 (x : Operand) (ho : o.op = .fieldAddr 27 x 2) {b : Nat} (h : ρ x = .pointer (some ⟨b, 0, none⟩)) : (execOp ρ o).run Yba.prog w = .ok (.value (.pointer (some ⟨b, 2, none⟩))) w := by
  have u27 := Yba.underlying27
  unfold execOp; rw [ho]; simp only; go_simp
theorem r_fa27_2 (x : Operand) (ho : o.op = .fieldAddr 27 x 2) {b q : Nat} (h : ρ x = .pointer (some ⟨b, q, none⟩)) : (execOp ρ o).run Yba.prog w = .ok (.value (.pointer (some ⟨b, q + 2, none⟩))) w := by
  have u27 := Yba.underlying27
  unfold execOp; rw [ho]; simp only; go_simp
theorem r_fo27_0 (x : Operand) (ho : o.op = .fieldAddr 27 x 0) {b : Nat} (h : ρ x = .pointer (some ⟨b, 0, none⟩)) : (execOp ρ o).run Yba.prog w = .ok (.value (.pointer (some ⟨b, 0, none⟩))) w := by
  have u27 := Yba.underlying27
  unfold execOp; rw [ho]; simp only; go_simp
theorem r_fa27_0 (x : Operand) (ho : o.op = .fieldAddr 27 x 0) {b q : Nat} (h : ρ x = .pointer (some ⟨b, q, none⟩)) : (execOp ρ o).run Yba.prog w = .ok (.value (.pointer (some ⟨b, q, none⟩))) w := by
  have u27 := Yba.underlying27
  unfold execOp; rw [ho]; simp only; go_simp
theorem r_call11 (x0 x1 : Operand) (ho : o.op = .call { callee := .value (.func 11), args := #[x0, x1], argTypes := #[64, 21] }) (hf : ρ (.func 11) = .func (.func 11) #[] #[]) {a0 a1 : Value} (h0 : ρ x0 = a0) (h1 : ρ x1 = a1) : (execOp ρ o).run Yba.prog w = .ok (.enter 11 #[a0, a1]) w := by
  unfold execOp; rw [ho]; simp only; go_simp
theorem r_fo27_1 (x : Operand) (ho : o.op = .fieldAddr 27 x 1) {b : Nat} (h : ρ x = .pointer (some ⟨b, 0, none⟩)) : (execOp ρ o).run Yba.prog w = .ok (.value (.pointer (some ⟨b, 1, none⟩))) w := by
  have u27 := Yba.underlying27
  unfold execOp; rw [ho]; simp only; go_simp
theorem r_fa27_1 (x : Operand) (ho : o.op = .fieldAddr 27 x 1) {b q : Nat} (h : ρ x = .pointer (some ⟨b, q, none⟩)) : (execOp ρ o).run Yba.prog w = .ok (.value (.pointer (some ⟨b, q + 1, none⟩))) w := by
  have u27 := Yba.underlying27
  unfold execOp; rw [ho]; simp only; go_simp
theorem r_fo46_3 (x : Operand) (ho : o.op = .fieldAddr 46 x 3) {b : Nat} (h : ρ x = .pointer (some ⟨b, 0, none⟩)) : (execOp ρ o).run Yba.prog w = .ok (.value (.pointer (some ⟨b, 3, none⟩))) w := by
  have u46 := Yba.underlying46
  unfold execOp; rw [ho]; simp only; go_simp
theorem r_fa46_3 (x : Operand) (ho : o.op = .fieldAddr 46 x 3) {b q : Nat} (h : ρ x = .pointer (some ⟨b, q, none⟩)) : (execOp ρ o).run Yba.prog w = .ok (.value (.pointer (some ⟨b, q + 3, none⟩))) w := by
  have u46 := Yba.underlying46
  unfold execOp; rw [ho]; simp only; go_simp
theorem r_eql21 (p q : Operand) (ho : o.op = .binOp .eql 21 p q 21) {x y : Int} (h : ρ p = .int .i32 x) (h' : ρ q = .int .i32 y) : (execOp ρ o).run Yba.prog w = .ok (.value (.bool (decide (x = y)))) w := by
  have u21 := Yba.underlying21
  have e : (x == y) = decide (x = y) := by by_cases e : x = y <;> simp [e]
  unfold execOp; rw [ho]; simp only; go_simp
theorem r_bsl33 (x : Operand) (ho : o.op = .buildSlice 33 1 #[(0, x)]) {z : Int} (h : ρ x = .int .i32 z) : (execOp ρ o).run Yba.prog w = .ok (.value (.slice (some ⟨w.heap.size, 0, none⟩) 1 1)) (w.alloc (.cells #[.int .i32 z] 21)) := by
  have u33 := Yba.underlying33
  have u21 := Yba.underlying21
  unfold execOp; rw [ho]; simp only; go_simp
theorem r_b46_0123c (x0 x1 x2 : Operand) (ho : o.op = .build 46 #[(0, x0), (1, x1), (2, x2), (3, .const (.bool true))]) {z0_0 : Int} {z1_0 : Int} {z2_0 : Int} (h0 : ρ x0 = .int .i32 z0_0) (h1 : ρ x1 = .int .i32 z1_0) (h2 : ρ x2 = .int .i32 z2_0) (k3 : ρ (.const (.bool true)) = .bool true) : (execOp ρ o).run Yba.prog w = .ok (.value (.agg #[.int .i32 z0_0, .int .i32 z1_0, .int .i32 z2_0, .bool true])) w := by
  have u46 := Yba.underlying46
  have u21 := Yba.underlying21
  have u4 := Yba.underlying4
  unfold execOp; rw [ho]; simp only; go_simp
theorem r_fo56_9 (x : Operand) (ho : o.op = .fieldAddr 56 x 9) {b : Nat} (h : ρ x = .pointer (some ⟨b, 0, none⟩)) : (execOp ρ o).run Yba.prog w = .ok (.value (.pointer (some ⟨b, 13, none⟩))) w := by
  have u56 := Yba.underlying56
  unfold execOp; rw [ho]; simp only; go_simp
theorem r_fa56_9 (x : Operand) (ho : o.op = .fieldAddr 56 x 9) {b q : Nat} (h : ρ x = .pointer (some ⟨b, q, none⟩)) : (execOp ρ o).run Yba.prog w = .ok (.value (.pointer (some ⟨b, q + 13, none⟩))) w := by
  have u56 := Yba.underlying56
  unfold execOp; rw [ho]; simp only; go_simp
theorem r_ld41 (x : Operand) (ho : o.op = .load 41 x) {b q : Nat} (h : ρ x = .pointer (some ⟨b, q, none⟩)) {v : Value} (hc : w.cell? ⟨b, q, none⟩ = some v) : (execOp ρ o).run Yba.prog w = .ok (.value v) w := by
  have u41 := Yba.underlying41
  unfold execOp; rw [ho]; simp only; go_simp
theorem r_neq3 (p q : Operand) (ho : o.op = .binOp .neq 3 p q 3) {x y : Int} (h : ρ p = .int .i64 x) (h' : ρ q = .int .i64 y) : (execOp ρ o).run Yba.prog w = .ok (.value (.bool (decide (x ≠ y)))) w := by
  have u3 := Yba.underlying3
  have e : (x != y) = !decide (x = y) := by by_cases e : x = y <;> simp [e]
  unfold execOp; rw [ho]; simp only; go_simp
theorem r_eql3 (p q : Operand) (ho : o.op = .binOp .eql 3 p q 3) {x y : Int} (h : ρ p = .int .i64 x) (h' : ρ q = .int .i64 y) : (execOp ρ o).run Yba.prog w = .ok (.value (.bool (decide (x = y)))) w := by
  have u3 := Yba.underlying3
  have e : (x == y) = decide (x = y) := by by_cases e : x = y <;> simp [e]
  unfold execOp; rw [ho]; simp only; go_simp
theorem r_fo56_10 (x : Operand) (ho : o.op = .fieldAddr 56 x 10) {b : Nat} (h : ρ x = .pointer (some ⟨b, 0, none⟩)) : (execOp ρ o).run Yba.prog w = .ok (.value (.pointer (some ⟨b, 14, none⟩))) w := by
  have u56 := Yba.underlying56
  unfold execOp; rw [ho]; simp only; go_simp
theorem r_fa56_10 (x : Operand) (ho : o.op = .fieldAddr 56 x 10) {b q : Nat} (h : ρ x = .pointer (some ⟨b, q, none⟩)) : (execOp ρ o).run Yba.prog w = .ok (.value (.pointer (some ⟨b, q + 14, none⟩))) w := by
  have u56 := Yba.underlying56
  unfold execOp; rw [ho]; simp only; go_simp
theorem r_call12 (x0 x1 : Operand) (ho : o.op = .call { callee := .value (.func 12), args := #[x0, x1], argTypes := #[33, 33] }) (hf : ρ (.func 12) = .func (.func 12) #[] #[]) {a0 a1 : Value} (h0 : ρ x0 = a0) (h1 : ρ x1 = a1) : (execOp ρ o).run Yba.prog w = .ok (.enter 12 #[a0, a1]) w := by
  unfold execOp; rw [ho]; simp only; go_simp
theorem r_fo56_13 (x : Operand) (ho : o.op = .fieldAddr 56 x 13) {b : Nat} (h : ρ x = .pointer (some ⟨b, 0, none⟩)) : (execOp ρ o).run Yba.prog w = .ok (.value (.pointer (some ⟨b, 17, none⟩))) w := by
  have u56 := Yba.underlying56
  unfold execOp; rw [ho]; simp only; go_simp
theorem r_fa56_13 (x : Operand) (ho : o.op = .fieldAddr 56 x 13) {b q : Nat} (h : ρ x = .pointer (some ⟨b, q, none⟩)) : (execOp ρ o).run Yba.prog w = .ok (.value (.pointer (some ⟨b, q + 17, none⟩))) w := by
  have u56 := Yba.underlying56
  unfold execOp; rw [ho]; simp only; go_simp
theorem r_fo56_14 (x : Operand) (ho : o.op = .fieldAddr 56 x 14) {b : Nat} (h : ρ x = .pointer (some ⟨b, 0, none⟩)) : (execOp ρ o).run Yba.prog w = .ok (.value (.pointer (some ⟨b, 18, none⟩))) w := by
  have u56 := Yba.underlying56
  unfold execOp; rw [ho]; simp only; go_simp
theorem r_fa56_14 (x : Operand) (ho : o.op = .fieldAddr 56 x 14) {b q : Nat} (h : ρ x = .pointer (some ⟨b, q, none⟩)) : (execOp ρ o).run Yba.prog w = .ok (.value (.pointer (some ⟨b, q + 18, none⟩))) w := by
  have u56 := Yba.underlying56
  unfold execOp; rw [ho]; simp only; go_simp
theorem r_neq21 (p q : Operand) (ho : o.op = .binOp .neq 21 p q 21) {x y : Int} (h : ρ p = .int .i32 x) (h' : ρ q = .int .i32 y) : (execOp ρ o).run Yba.prog w = .ok (.value (.bool (decide (x ≠ y)))) w := by
  have u21 := Yba.underlying21
  have e : (x != y) = !decide (x = y) := by by_cases e : x = y <;> simp [e]
  unfold execOp; rw [ho]; simp only; go_simp
theorem r_fo56_1 (x : Operand) (ho : o.op = .fieldAddr 56 x 1) {b : Nat} (h : ρ x = .pointer (some ⟨b, 0, none⟩)) : (execOp ρ o).run Yba.prog w = .ok (.value (.pointer (some ⟨b, 3, none⟩))) w := by
  have u56 := Yba.underlying56
  unfold execOp; rw [ho]; simp only; go_simp
theorem r_fa56_1 (x : Operand) (ho : o.op = .fieldAddr 56 x 1) {b q : Nat} (h : ρ x = .pointer (some ⟨b, q, none⟩)) : (execOp ρ o).run Yba.prog w = .ok (.value (.pointer (some ⟨b, q + 3, none⟩))) w := by
  have u56 := Yba.underlying56
  unfold execOp; rw [ho]; simp only; go_simp
theorem r_fo53_0 (x : Operand) (ho : o.op = .fieldAddr 53 x 0) {b : Nat} (h : ρ x = .pointer (some ⟨b, 0, none⟩)) : (execOp ρ o).run Yba.prog w = .ok (.value (.pointer (some ⟨b, 0, none⟩))) w := by
  have u53 := Yba.underlying53
  unfold execOp; rw [ho]; simp only; go_simp
theorem r_fa53_0 (x : Operand) (ho : o.op = .fieldAddr 53 x 0) {b q : Nat} (h : ρ x = .pointer (some ⟨b, q, none⟩)) : (execOp ρ o).run Yba.prog w = .ok (.value (.pointer (some ⟨b, q, none⟩))) w := by
  have u53 := Yba.underlying53
  unfold execOp; rw [ho]; simp only; go_simp
theorem r_ld31 (x : Operand) (ho : o.op = .load 31 x) {b q : Nat} (h : ρ x = .pointer (some ⟨b, q, none⟩)) {v : Value} (hc : w.cell? ⟨b, q, none⟩ = some v) : (execOp ρ o).run Yba.prog w = .ok (.value v) w := by
  have u31 := Yba.underlying31
  unfold execOp; rw [ho]; simp only; go_simp
theorem r_call13 (x0 x1 : Operand) (ho : o.op = .call { callee := .value (.func 13), args := #[x0, x1], argTypes := #[31, 31] }) (hf : ρ (.func 13) = .func (.func 13) #[] #[]) {a0 a1 : Value} (h0 : ρ x0 = a0) (h1 : ρ x1 = a1) : (execOp ρ o).run Yba.prog w = .ok (.enter 13 #[a0, a1]) w := by
  unfold execOp; rw [ho]; simp only; go_simp
theorem r_fo53_1 (x : Operand) (ho : o.op = .fieldAddr 53 x 1) {b : Nat} (h : ρ x = .pointer (some ⟨b, 0, none⟩)) : (execOp ρ o).run Yba.prog w = .ok (.value (.pointer (some ⟨b, 1, none⟩))) w := by
  have u53 := Yba.underlying53
  unfold execOp; rw [ho]; simp only; go_simp
theorem r_fa53_1 (x : Operand) (ho : o.op = .fieldAddr 53 x 1) {b q : Nat} (h : ρ x = .pointer (some ⟨b, q, none⟩)) : (execOp ρ o).run Yba.prog w = .ok (.value (.pointer (some ⟨b, q + 1, none⟩))) w := by
  have u53 := Yba.underlying53
  unfold execOp; rw [ho]; simp only; go_simp
theorem r_ld32 (x : Operand) (ho : o.op = .load 32 x) {b q : Nat} (h : ρ x = .pointer (some ⟨b, q, none⟩)) {v : Value} (hc : w.cell? ⟨b, q, none⟩ = some v) : (execOp ρ o).run Yba.prog w = .ok (.value v) w := by
  have u32 := Yba.underlying32
  unfold execOp; rw [ho]; simp only; go_simp
theorem r_call14 (x0 x1 : Operand) (ho : o.op = .call { callee := .value (.func 14), args := #[x0, x1], argTypes := #[32, 32] }) (hf : ρ (.func 14) = .func (.func 14) #[] #[]) {a0 a1 : Value} (h0 : ρ x0 = a0) (h1 : ρ x1 = a1) : (execOp ρ o).run Yba.prog w = .ok (.enter 14 #[a0, a1]) w := by
  unfold execOp; rw [ho]; simp only; go_simp
theorem r_fo56_2 (x : Operand) (ho : o.op = .fieldAddr 56 x 2) {b : Nat} (h : ρ x = .pointer (some ⟨b, 0, none⟩)) : (execOp ρ o).run Yba.prog w = .ok (.value (.pointer (some ⟨b, 6, none⟩))) w := by
  have u56 := Yba.underlying56
  unfold execOp; rw [ho]; simp only; go_simp
theorem r_fa56_2 (x : Operand) (ho : o.op = .fieldAddr 56 x 2) {b q : Nat} (h : ρ x = .pointer (some ⟨b, q, none⟩)) : (execOp ρ o).run Yba.prog w = .ok (.value (.pointer (some ⟨b, q + 6, none⟩))) w := by
  have u56 := Yba.underlying56
  unfold execOp; rw [ho]; simp only; go_simp
theorem r_ld25 (x : Operand) (ho : o.op = .load 25 x) {b q : Nat} (h : ρ x = .pointer (some ⟨b, q, none⟩)) {v : Value} (hc : w.cell? ⟨b, q, none⟩ = some v) : (execOp ρ o).run Yba.prog w = .ok (.value v) w := by
  have u25 := Yba.underlying25
  unfold execOp; rw [ho]; simp only; go_simp
theorem r_call15 (x0 x1 : Operand) (ho : o.op = .call { callee := .value (.func 15), args := #[x0, x1], argTypes := #[25, 25] }) (hf : ρ (.func 15) = .func (.func 15) #[] #[]) {a0 a1 : Value} (h0 : ρ x0 = a0) (h1 : ρ x1 = a1) : (execOp ρ o).run Yba.prog w = .ok (.enter 15 #[a0, a1]) w := by
  unfold execOp; rw [ho]; simp only; go_simp
theorem r_fo56_12 (x : Operand) (ho : o.op = .fieldAddr 56 x 12) {b : Nat} (h : ρ x = .pointer (some ⟨b, 0, none⟩)) : (execOp ρ o).run Yba.prog w = .ok (.value (.pointer (some ⟨b, 16, none⟩))) w := by
  have u56 := Yba.underlying56
  unfold execOp; rw [ho]; simp only; go_simp
theorem r_fa56_12 (x : Operand) (ho : o.op = .fieldAddr 56 x 12) {b q : Nat} (h : ρ x = .pointer (some ⟨b, q, none⟩)) : (execOp ρ o).run Yba.prog w = .ok (.value (.pointer (some ⟨b, q + 16, none⟩))) w := by
  have u56 := Yba.underlying56
  unfold execOp; rw [ho]; simp only; go_simp
theorem r_box51 (x : Operand) (ho : o.op = .box 51 x) {p : Option Addr} (h : ρ x = .pointer p) : (execOp ρ o).run Yba.prog w = .ok (.value (ptr w.heap.size)) (w.alloc (.cells #[.pointer p] 51)) := by
  unfold ptr
  unfold execOp; rw [ho]; simp only; go_simp
theorem r_box58 (x : Operand) (ho : o.op = .box 58 x) {cs : Array Value} (h : ρ x = .agg cs) : (execOp ρ o).run Yba.prog w = .ok (.value (ptr w.heap.size)) (w.alloc (.cells cs 58)) := by
  unfold ptr
  unfold execOp; rw [ho]; simp only; go_simp
theorem r_box59 (x : Operand) (ho : o.op = .box 59 x) {p : Option Addr} (h : ρ x = .pointer p) : (execOp ρ o).run Yba.prog w = .ok (.value (ptr w.heap.size)) (w.alloc (.cells #[.pointer p] 59)) := by
  unfold ptr
  unfold execOp; rw [ho]; simp only; go_simp
theorem r_ld51 (x : Operand) (ho : o.op = .load 51 x) {b q : Nat} (h : ρ x = .pointer (some ⟨b, q, none⟩)) {v : Value} (hc : w.cell? ⟨b, q, none⟩ = some v) : (execOp ρ o).run Yba.prog w = .ok (.value v) w := by
  have u51 := Yba.underlying51
  unfold execOp; rw [ho]; simp only; go_simp
theorem r_fo58_0 (x : Operand) (ho : o.op = .fieldAddr 58 x 0) {b : Nat} (h : ρ x = .pointer (some ⟨b, 0, none⟩)) : (execOp ρ o).run Yba.prog w = .ok (.value (.pointer (some ⟨b, 0, none⟩))) w := by
  have u58 := Yba.underlying58
  unfold execOp; rw [ho]; simp only; go_simp
theorem r_fa58_0 (x : Operand) (ho : o.op = .fieldAddr 58 x 0) {b q : Nat} (h : ρ x = .pointer (some ⟨b, q, none⟩)) : (execOp ρ o).run Yba.prog w = .ok (.value (.pointer (some ⟨b, q, none⟩))) w := by
  have u58 := Yba.underlying58
  unfold execOp; rw [ho]; simp only; go_simp
theorem r_fo58_1 (x : Operand) (ho : o.op = .fieldAddr 58 x 1) {b : Nat} (h : ρ x = .pointer (some ⟨b, 0, none⟩)) : (execOp ρ o).run Yba.prog w = .ok (.value (.pointer (some ⟨b, 1, none⟩))) w := by
  have u58 := Yba.underlying58
  unfold execOp; rw [ho]; simp only; go_simp
theorem r_fa58_1 (x : Operand) (ho : o.op = .fieldAddr 58 x 1) {b q : Nat} (h : ρ x = .pointer (some ⟨b, q, none⟩)) : (execOp ρ o).run Yba.prog w = .ok (.value (.pointer (some ⟨b, q + 1, none⟩))) w := by
  have u58 := Yba.underlying58
  unfold execOp; rw [ho]; simp only; go_simp
theorem r_ld40 (x : Operand) (ho : o.op = .load 40 x) {b q : Nat} {v0 v1 : Value} (h : ρ x = .pointer (some ⟨b, q, none⟩)) (c0 : w.cell? ⟨b, q, none⟩ = some v0) (c1 : w.cell? ⟨b, q + 1, none⟩ = some v1) : (execOp ρ o).run Yba.prog w = .ok (.value (.agg #[v0, v1])) w := by
  have u40 := Yba.underlying40
  have u21 := Yba.underlying21
  unfold execOp; rw [ho]; simp only; go_simp
theorem r_ld40z (x : Operand) (ho : o.op = .load 40 x) {b : Nat} {v0 v1 : Value} (h : ρ x = .pointer (some ⟨b, 0, none⟩)) (c0 : w.cell? ⟨b, 0, none⟩ = some v0) (c1 : w.cell? ⟨b, 1, none⟩ = some v1) : (execOp ρ o).run Yba.prog w = .ok (.value (.agg #[v0, v1])) w := by
  have u40 := Yba.underlying40
  have u21 := Yba.underlying21
  unfold execOp; rw [ho]; simp only; go_simp
theorem r_call22 (x0 x1 : Operand) (ho : o.op = .call { callee := .value (.func 22), args := #[x0, x1], argTypes := #[51, 40] }) (hf : ρ (.func 22) = .func (.func 22) #[] #[]) {a0 a1 : Value} (h0 : ρ x0 = a0) (h1 : ρ x1 = a1) : (execOp ρ o).run Yba.prog w = .ok (.enter 22 #[a0, a1]) w := by
  unfold execOp; rw [ho]; simp only; go_simp
theorem r_ix32z (x y : Operand) (ho : o.op = .indexAddr 32 x y) {b n c i : Nat} {k : IntKind} (hi : i < n) (h : ρ x = .slice (some ⟨b, 0, none⟩) n c) (h' : ρ y = .int k i) : (execOp ρ o).run Yba.prog w = .ok (.value (.pointer (some ⟨b, i * 2, none⟩))) w := by
  have u32 := Yba.underlying32
  have u40 := Yba.underlying40
  have h0 : (0 : Int) ≤ i := by omega
  have h1 : (i : Int) < n := by omega
  unfold execOp; rw [ho]; simp only; go_simp
theorem r_ix32 (x y : Operand) (ho : o.op = .indexAddr 32 x y) {b q n c i : Nat} {k : IntKind} (hi : i < n) (h : ρ x = .slice (some ⟨b, q, none⟩) n c) (h' : ρ y = .int k i) : (execOp ρ o).run Yba.prog w = .ok (.value (.pointer (some ⟨b, q + i * 2, none⟩))) w := by
  have u32 := Yba.underlying32
  have u40 := Yba.underlying40
  have h0 : (0 : Int) ≤ i := by omega
  have h1 : (i : Int) < n := by omega
  unfold execOp; rw [ho]; simp only; go_simp
theorem r_al40 (ho : o.op = .alloc 40) : (execOp ρ o).run Yba.prog w = .ok (.value (ptr w.heap.size)) (w.alloc (.cells #[.int .i32 0, .int .i32 0] 40)) := by
  unfold ptr
  have u40 := Yba.underlying40
  have u21 := Yba.underlying21
  unfold execOp; rw [ho]; simp only; go_simp
theorem r_st40 (x y : Operand) (ho : o.op = .store 40 x y) {z0 : Int} {z1 : Int} (h : ρ x = ptr w.heap.size) (h' : ρ y = .agg #[.int .i32 z0, .int .i32 z1]) : (execOp ρ o).run Yba.prog (w.alloc (.cells #[.int .i32 0, .int .i32 0] 40)) = .ok .skip (w.alloc (.cells #[.int .i32 z0, .int .i32 z1] 40)) := by
  unfold ptr at *
  have u40 := Yba.underlying40
  have u21 := Yba.underlying21
  unfold execOp; rw [ho]; simp only; go_simp
theorem r_call23 (x0 x1 : Operand) (ho : o.op = .call { callee := .value (.func 23), args := #[x0, x1], argTypes := #[51, 40] }) (hf : ρ (.func 23) = .func (.func 23) #[] #[]) {a0 a1 : Value} (h0 : ρ x0 = a0) (h1 : ρ x1 = a1) : (execOp ρ o).run Yba.prog w = .ok (.enter 23 #[a0, a1]) w := by
  unfold execOp; rw [ho]; simp only; go_simp
theorem r_ix31z (x y : Operand) (ho : o.op = .indexAddr 31 x y) {b n c i : Nat} {k : IntKind} (hi : i < n) (h : ρ x = .slice (some ⟨b, 0, none⟩) n c) (h' : ρ y = .int k i) : (execOp ρ o).run Yba.prog w = .ok (.value (.pointer (some ⟨b, i * 2, none⟩))) w := by
  have u31 := Yba.underlying31
  have u38 := Yba.underlying38
  have h0 : (0 : Int) ≤ i := by omega
  have h1 : (i : Int) < n := by omega
  unfold execOp; rw [ho]; simp only; go_simp
theorem r_ix31 (x y : Operand) (ho : o.op = .indexAddr 31 x y) {b q n c i : Nat} {k : IntKind} (hi : i < n) (h : ρ x = .slice (some ⟨b, q, none⟩) n c) (h' : ρ y = .int k i) : (execOp ρ o).run Yba.prog w = .ok (.value (.pointer (some ⟨b, q + i * 2, none⟩))) w := by
  have u31 := Yba.underlying31
  have u38 := Yba.underlying38
  have h0 : (0 : Int) ≤ i := by omega
  have h1 : (i : Int) < n := by omega
  unfold execOp; rw [ho]; simp only; go_simp
theorem r_ld38 (x : Operand) (ho : o.op = .load 38 x) {b q : Nat} {v0 v1 : Value} (h : ρ x = .pointer (some ⟨b, q, none⟩)) (c0 : w.cell? ⟨b, q, none⟩ = some v0) (c1 : w.cell? ⟨b, q + 1, none⟩ = some v1) : (execOp ρ o).run Yba.prog w = .ok (.value (.agg #[v0, v1])) w := by
  have u38 := Yba.underlying38
  have u21 := Yba.underlying21
  unfold execOp; rw [ho]; simp only; go_simp
theorem r_ld38z (x : Operand) (ho : o.op = .load 38 x) {b : Nat} {v0 v1 : Value} (h : ρ x = .pointer (some ⟨b, 0, none⟩)) (c0 : w.cell? ⟨b, 0, none⟩ = some v0) (c1 : w.cell? ⟨b, 1, none⟩ = some v1) : (execOp ρ o).run Yba.prog w = .ok (.value (.agg #[v0, v1])) w := by
  have u38 := Yba.underlying38
  have u21 := Yba.underlying21
  unfold execOp; rw [ho]; simp only; go_simp
theorem r_al38 (ho : o.op = .alloc 38) : (execOp ρ o).run Yba.prog w = .ok (.value (ptr w.heap.size)) (w.alloc (.cells #[.int .i32 0, .int .i32 0] 38)) := by
  unfold ptr
  have u38 := Yba.underlying38
  have u21 := Yba.underlying21
  unfold execOp; rw [ho]; simp only; go_simp
theorem r_st38 (x y : Operand) (ho : o.op = .store 38 x y) {z0 : Int} {z1 : Int} (h : ρ x = ptr w.heap.size) (h' : ρ y = .agg #[.int .i32 z0, .int .i32 z1]) : (execOp ρ o).run Yba.prog (w.alloc (.cells #[.int .i32 0, .int .i32 0] 38)) = .ok .skip (w.alloc (.cells #[.int .i32 z0, .int .i32 z1] 38)) := by
  unfold ptr at *
  have u38 := Yba.underlying38
  have u21 := Yba.underlying21
  unfold execOp; rw [ho]; simp only; go_simp
theorem r_fo38_0 (x : Operand) (ho : o.op = .fieldAddr 38 x 0) {b : Nat} (h : ρ x = .pointer (some ⟨b, 0, none⟩)) : (execOp ρ o).run Yba.prog w = .ok (.value (.pointer (some ⟨b, 0, none⟩))) w := by
  have u38 := Yba.underlying38
  unfold execOp; rw [ho]; simp only; go_simp
theorem r_fa38_0 (x : Operand) (ho : o.op = .fieldAddr 38 x 0) {b q : Nat} (h : ρ x = .pointer (some ⟨b, q, none⟩)) : (execOp ρ o).run Yba.prog w = .ok (.value (.pointer (some ⟨b, q, none⟩))) w := by
  have u38 := Yba.underlying38
  unfold execOp; rw [ho]; simp only; go_simp
theorem r_fo58_2 (x : Operand) (ho : o.op = .fieldAddr 58 x 2) {b : Nat} (h : ρ x = .pointer (some ⟨b, 0, none⟩)) : (execOp ρ o).run Yba.prog w = .ok (.value (.pointer (some ⟨b, 3, none⟩))) w := by
  have u58 := Yba.underlying58
  unfold execOp; rw [ho]; simp only; go_simp
theorem r_fa58_2 (x : Operand) (ho : o.op = .fieldAddr 58 x 2) {b q : Nat} (h : ρ x = .pointer (some ⟨b, q, none⟩)) : (execOp ρ o).run Yba.prog w = .ok (.value (.pointer (some ⟨b, q + 3, none⟩))) w := by
  have u58 := Yba.underlying58
  unfold execOp; rw [ho]; simp only; go_simp
theorem r_fo38_1 (x : Operand) (ho : o.op = .fieldAddr 38 x 1) {b : Nat} (h : ρ x = .pointer (some ⟨b, 0, none⟩)) : (execOp ρ o).run Yba.prog w = .ok (.value (.pointer (some ⟨b, 1, none⟩))) w := by
  have u38 := Yba.underlying38
  unfold execOp; rw [ho]; simp only; go_simp
theorem r_fa38_1 (x : Operand) (ho : o.op = .fieldAddr 38 x 1) {b q : Nat} (h : ρ x = .pointer (some ⟨b, q, none⟩)) : (execOp ρ o).run Yba.prog w = .ok (.value (.pointer (some ⟨b, q + 1, none⟩))) w := by
  have u38 := Yba.underlying38
  unfold execOp; rw [ho]; simp only; go_simp
theorem r_fo66_2 (x : Operand) (ho : o.op = .fieldAddr 66 x 2) {b : Nat} (h : ρ x = .pointer (some ⟨b, 0, none⟩)) : (execOp ρ o).run Yba.prog w = .ok (.value (.pointer (some ⟨b, 2, none⟩))) w := by
  have u66 := Yba.underlying66
  unfold execOp; rw [ho]; simp only; go_simp
theorem r_fa66_2 (x : Operand) (ho : o.op = .fieldAddr 66 x 2) {b q : Nat} (h : ρ x = .pointer (some ⟨b, q, none⟩)) : (execOp ρ o).run Yba.prog w = .ok (.value (.pointer (some ⟨b, q + 2, none⟩))) w := by
  have u66 := Yba.underlying66
  unfold execOp; rw [ho]; simp only; go_simp
theorem r_fo66_3 (x : Operand) (ho : o.op = .fieldAddr 66 x 3) {b : Nat} (h : ρ x = .pointer (some ⟨b, 0, none⟩)) : (execOp ρ o).run Yba.prog w = .ok (.value (.pointer (some ⟨b, 3, none⟩))) w := by
  have u66 := Yba.underlying66
  unfold execOp; rw [ho]; simp only; go_simp
theorem r_fa66_3 (x : Operand) (ho : o.op = .fieldAddr 66 x 3) {b q : Nat} (h : ρ x = .pointer (some ⟨b, q, none⟩)) : (execOp ρ o).run Yba.prog w = .ok (.value (.pointer (some ⟨b, q + 3, none⟩))) w := by
  have u66 := Yba.underlying66
  unfold execOp; rw [ho]; simp only; go_simp
theorem r_fo66_0 (x : Operand) (ho : o.op = .fieldAddr 66 x 0) {b : Nat} (h : ρ x = .pointer (some ⟨b, 0, none⟩)) : (execOp ρ o).run Yba.prog w = .ok (.value (.pointer (some ⟨b, 0, none⟩))) w := by
  have u66 := Yba.underlying66
  unfold execOp; rw [ho]; simp only; go_simp
theorem r_fa66_0 (x : Operand) (ho : o.op = .fieldAddr 66 x 0) {b q : Nat} (h : ρ x = .pointer (some ⟨b, q, none⟩)) : (execOp ρ o).run Yba.prog w = .ok (.value (.pointer (some ⟨b, q, none⟩))) w := by
  have u66 := Yba.underlying66
  unfold execOp; rw [ho]; simp only; go_simp
theorem r_ld23 (x : Operand) (ho : o.op = .load 23 x) {b q : Nat} (h : ρ x = .pointer (some ⟨b, q, none⟩)) {v : Value} (hc : w.cell? ⟨b, q, none⟩ = some v) : (execOp ρ o).run Yba.prog w = .ok (.value v) w := by
  have u23 := Yba.underlying23
  unfold execOp; rw [ho]; simp only; go_simp
theorem r_call24 (x0 x1 : Operand) (ho : o.op = .call { callee := .value (.func 24), args := #[x0, x1], argTypes := #[35, 21] }) (hf : ρ (.func 24) = .func (.func 24) #[] #[]) {a0 a1 : Value} (h0 : ρ x0 = a0) (h1 : ρ x1 = a1) : (execOp ρ o).run Yba.prog w = .ok (.enter 24 #[a0, a1]) w := by
  unfold execOp; rw [ho]; simp only; go_simp
theorem r_call25 (x0 x1 : Operand) (ho : o.op = .call { callee := .value (.func 25), args := #[x0, x1], argTypes := #[64, 21] }) (hf : ρ (.func 25) = .func (.func 25) #[] #[]) {a0 a1 : Value} (h0 : ρ x0 = a0) (h1 : ρ x1 = a1) : (execOp ρ o).run Yba.prog w = .ok (.enter 25 #[a0, a1]) w := by
  unfold execOp; rw [ho]; simp only; go_simp
theorem r_fo66_5 (x : Operand) (ho : o.op = .fieldAddr 66 x 5) {b : Nat} (h : ρ x = .pointer (some ⟨b, 0, none⟩)) : (execOp ρ o).run Yba.prog w = .ok (.value (.pointer (some ⟨b, 5, none⟩))) w := by
  have u66 := Yba.underlying66
  unfold execOp; rw [ho]; simp only; go_simp
theorem r_fa66_5 (x : Operand) (ho : o.op = .fieldAddr 66 x 5) {b q : Nat} (h : ρ x = .pointer (some ⟨b, q, none⟩)) : (execOp ρ o).run Yba.prog w = .ok (.value (.pointer (some ⟨b, q + 5, none⟩))) w := by
  have u66 := Yba.underlying66
  unfold execOp; rw [ho]; simp only; go_simp
theorem r_fo66_6 (x : Operand) (ho : o.op = .fieldAddr 66 x 6) {b : Nat} (h : ρ x = .pointer (some ⟨b, 0, none⟩)) : (execOp ρ o).run Yba.prog w = .ok (.value (.pointer (some ⟨b, 6, none⟩))) w := by
  have u66 := Yba.underlying66
  unfold execOp; rw [ho]; simp only; go_simp
theorem r_fa66_6 (x : Operand) (ho : o.op = .fieldAddr 66 x 6) {b q : Nat} (h : ρ x = .pointer (some ⟨b, q, none⟩)) : (execOp ρ o).run Yba.prog w = .ok (.value (.pointer (some ⟨b, q + 6, none⟩))) w := by
  have u66 := Yba.underlying66
  unfold execOp; rw [ho]; simp only; go_simp
theorem r_len25 (x : Operand) (ho : o.op = .call { callee := .builtin .len, args := #[x], argTypes := #[25] }) {b : Option Addr} {n c : Nat} (h : ρ x = .slice b n c) : (execOp ρ o).run Yba.prog w = .ok (.value (.int .i64 n)) w := by
  have u25 := Yba.underlying25
  unfold execOp; rw [ho]; simp only; go_simp
theorem r_ld59 (x : Operand) (ho : o.op = .load 59 x) {b q : Nat} (h : ρ x = .pointer (some ⟨b, q, none⟩)) {v : Value} (hc : w.cell? ⟨b, q, none⟩ = some v) : (execOp ρ o).run Yba.prog w = .ok (.value v) w := by
  have u59 := Yba.underlying59
  unfold execOp; rw [ho]; simp only; go_simp
theorem r_fo62_4 (x : Operand) (ho : o.op = .fieldAddr 62 x 4) {b : Nat} (h : ρ x = .pointer (some ⟨b, 0, none⟩)) : (execOp ρ o).run Yba.prog w = .ok (.value (.pointer (some ⟨b, 10, none⟩))) w := by
  have u62 := Yba.underlying62
  unfold execOp; rw [ho]; simp only; go_simp
theorem r_fa62_4 (x : Operand) (ho : o.op = .fieldAddr 62 x 4) {b q : Nat} (h : ρ x = .pointer (some ⟨b, q, none⟩)) : (execOp ρ o).run Yba.prog w = .ok (.value (.pointer (some ⟨b, q + 10, none⟩))) w := by
  have u62 := Yba.underlying62
  unfold execOp; rw [ho]; simp only; go_simp
theorem r_call18 (x0 x1 x2 : Operand) (ho : o.op = .call { callee := .value (.func 18), args := #[x0, x1, x2], argTypes := #[59, 21, 21] }) (hf : ρ (.func 18) = .func (.func 18) #[] #[]) {a0 a1 a2 : Value} (h0 : ρ x0 = a0) (h1 : ρ x1 = a1) (h2 : ρ x2 = a2) : (execOp ρ o).run Yba.prog w = .ok (.enter 18 #[a0, a1, a2]) w := by
  unfold execOp; rw [ho]; simp only; go_simp
theorem r_call19 (x0 x1 : Operand) (ho : o.op = .call { callee := .value (.func 19), args := #[x0, x1], argTypes := #[51, 46] }) (hf : ρ (.func 19) = .func (.func 19) #[] #[]) {a0 a1 : Value} (h0 : ρ x0 = a0) (h1 : ρ x1 = a1) : (execOp ρ o).run Yba.prog w = .ok (.enter 19 #[a0, a1]) w := by
  unfold execOp; rw [ho]; simp only; go_simp
theorem r_fo62_0 (x : Operand) (ho : o.op = .fieldAddr 62 x 0) {b : Nat} (h : ρ x = .pointer (some ⟨b, 0, none⟩)) : (execOp ρ o).run Yba.prog w = .ok (.value (.pointer (some ⟨b, 0, none⟩))) w := by
  have u62 := Yba.underlying62
  unfold execOp; rw [ho]; simp only; go_simp
theorem r_fa62_0 (x : Operand) (ho : o.op = .fieldAddr 62 x 0) {b q : Nat} (h : ρ x = .pointer (some ⟨b, q, none⟩)) : (execOp ρ o).run Yba.prog w = .ok (.value (.pointer (some ⟨b, q, none⟩))) w := by
  have u62 := Yba.underlying62
  unfold execOp; rw [ho]; simp only; go_simp
theorem r_sto33 (x y : Operand) (ho : o.op = .store 33 x y) {b q : Nat} {p : Option Addr} {m c : Nat} {v' : Value} (h : ρ x = .pointer (some ⟨b, q, none⟩)) (h' : ρ y = .slice p m c) (hc : w.cell? ⟨b, q, none⟩ = some v') (hz : w.frozen? ⟨b, q, none⟩ = false) : (execOp ρ o).run Yba.prog w = .ok .skip (w.setCell ⟨b, q, none⟩ (.slice p m c)) := by
  have u33 := Yba.underlying33
  unfold execOp; rw [ho]; simp only; go_simp
theorem r_fo62_1 (x : Operand) (ho : o.op = .fieldAddr 62 x 1) {b : Nat} (h : ρ x = .pointer (some ⟨b, 0, none⟩)) : (execOp ρ o).run Yba.prog w = .ok (.value (.pointer (some ⟨b, 1, none⟩))) w := by
  have u62 := Yba.underlying62
  unfold execOp; rw [ho]; simp only; go_simp
theorem r_fa62_1 (x : Operand) (ho : o.op = .fieldAddr 62 x 1) {b q : Nat} (h : ρ x = .pointer (some ⟨b, q, none⟩)) : (execOp ρ o).run Yba.prog w = .ok (.value (.pointer (some ⟨b, q + 1, none⟩))) w := by
  have u62 := Yba.underlying62
  unfold execOp; rw [ho]; simp only; go_simp
theorem r_call29 (x0 x1 : Operand) (ho : o.op = .call { callee := .value (.func 29), args := #[x0, x1], argTypes := #[58, 21] }) (hf : ρ (.func 29) = .func (.func 29) #[] #[]) {a0 a1 : Value} (h0 : ρ x0 = a0) (h1 : ρ x1 = a1) : (execOp ρ o).run Yba.prog w = .ok (.enter 29 #[a0, a1]) w := by
  unfold execOp; rw [ho]; simp only; go_simp
theorem r_fo62_2 (x : Operand) (ho : o.op = .fieldAddr 62 x 2) {b : Nat} (h : ρ x = .pointer (some ⟨b, 0, none⟩)) : (execOp ρ o).run Yba.prog w = .ok (.value (.pointer (some ⟨b, 7, none⟩))) w := by
  have u62 := Yba.underlying62
  unfold execOp; rw [ho]; simp only; go_simp
theorem r_fa62_2 (x : Operand) (ho : o.op = .fieldAddr 62 x 2) {b q : Nat} (h : ρ x = .pointer (some ⟨b, q, none⟩)) : (execOp ρ o).run Yba.prog w = .ok (.value (.pointer (some ⟨b, q + 7, none⟩))) w := by
  have u62 := Yba.underlying62
  unfold execOp; rw [ho]; simp only; go_simp
theorem r_fo62_3 (x : Operand) (ho : o.op = .fieldAddr 62 x 3) {b : Nat} (h : ρ x = .pointer (some ⟨b, 0, none⟩)) : (execOp ρ o).run Yba.prog w = .ok (.value (.pointer (some ⟨b, 9, none⟩))) w := by
  have u62 := Yba.underlying62
  unfold execOp; rw [ho]; simp only; go_simp
theorem r_fa62_3 (x : Operand) (ho : o.op = .fieldAddr 62 x 3) {b q : Nat} (h : ρ x = .pointer (some ⟨b, q, none⟩)) : (execOp ρ o).run Yba.prog w = .ok (.value (.pointer (some ⟨b, q + 9, none⟩))) w := by
  have u62 := Yba.underlying62
  unfold execOp; rw [ho]; simp only; go_simp
theorem r_ld60 (x : Operand) (ho : o.op = .load 60 x) {b q : Nat} (h : ρ x = .pointer (some ⟨b, q, none⟩)) {v : Value} (hc : w.cell? ⟨b, q, none⟩ = some v) : (execOp ρ o).run Yba.prog w = .ok (.value v) w := by
  have u60 := Yba.underlying60
  unfold execOp; rw [ho]; simp only; go_simp
theorem r_len60 (x : Operand) (ho : o.op = .call { callee := .builtin .len, args := #[x], argTypes := #[60] }) {b : Option Addr} {n c : Nat} (h : ρ x = .slice b n c) : (execOp ρ o).run Yba.prog w = .ok (.value (.int .i64 n)) w := by
  have u60 := Yba.underlying60
  unfold execOp; rw [ho]; simp only; go_simp
theorem r_ix60z (x y : Operand) (ho : o.op = .indexAddr 60 x y) {b n c i : Nat} {k : IntKind} (hi : i < n) (h : ρ x = .slice (some ⟨b, 0, none⟩) n c) (h' : ρ y = .int k i) : (execOp ρ o).run Yba.prog w = .ok (.value (.pointer (some ⟨b, i * 6, none⟩))) w := by
  have u60 := Yba.underlying60
  have u58 := Yba.underlying58
  have h0 : (0 : Int) ≤ i := by omega
  have h1 : (i : Int) < n := by omega
  unfold execOp; rw [ho]; simp only; go_simp
theorem r_ix60 (x y : Operand) (ho : o.op = .indexAddr 60 x y) {b q n c i : Nat} {k : IntKind} (hi : i < n) (h : ρ x = .slice (some ⟨b, q, none⟩) n c) (h' : ρ y = .int k i) : (execOp ρ o).run Yba.prog w = .ok (.value (.pointer (some ⟨b, q + i * 6, none⟩))) w := by
  have u60 := Yba.underlying60
  have u58 := Yba.underlying58
  have h0 : (0 : Int) ≤ i := by omega
  have h1 : (i : Int) < n := by omega
  unfold execOp; rw [ho]; simp only; go_simp
theorem r_box46 (x : Operand) (ho : o.op = .box 46 x) {cs : Array Value} (h : ρ x = .agg cs) : (execOp ρ o).run Yba.prog w = .ok (.value (ptr w.heap.size)) (w.alloc (.cells cs 46)) := by
  unfold ptr
  unfold execOp; rw [ho]; simp only; go_simp
theorem r_sto41 (x y : Operand) (ho : o.op = .store 41 x y) {b q : Nat} {p : Option Addr} {m c : Nat} {v' : Value} (h : ρ x = .pointer (some ⟨b, q, none⟩)) (h' : ρ y = .slice p m c) (hc : w.cell? ⟨b, q, none⟩ = some v') (hz : w.frozen? ⟨b, q, none⟩ = false) : (execOp ρ o).run Yba.prog w = .ok .skip (w.setCell ⟨b, q, none⟩ (.slice p m c)) := by
  have u41 := Yba.underlying41
  unfold execOp; rw [ho]; simp only; go_simp
theorem r_call21 (x0 x1 : Operand) (ho : o.op = .call { callee := .value (.func 21), args := #[x0, x1], argTypes := #[58, 21] }) (hf : ρ (.func 21) = .func (.func 21) #[] #[]) {a0 a1 : Value} (h0 : ρ x0 = a0) (h1 : ρ x1 = a1) : (execOp ρ o).run Yba.prog w = .ok (.enter 21 #[a0, a1]) w := by
  unfold execOp; rw [ho]; simp only; go_simp
theorem r_call16 (x0 x1 : Operand) (ho : o.op = .call { callee := .value (.func 16), args := #[x0, x1], argTypes := #[31, 21] }) (hf : ρ (.func 16) = .func (.func 16) #[] #[]) {a0 a1 : Value} (h0 : ρ x0 = a0) (h1 : ρ x1 = a1) : (execOp ρ o).run Yba.prog w = .ok (.enter 16 #[a0, a1]) w := by
  unfold execOp; rw [ho]; simp only; go_simp
theorem r_box40 (x : Operand) (ho : o.op = .box 40 x) {cs : Array Value} (h : ρ x = .agg cs) : (execOp ρ o).run Yba.prog w = .ok (.value (ptr w.heap.size)) (w.alloc (.cells cs 40)) := by
  unfold ptr
  unfold execOp; rw [ho]; simp only; go_simp
theorem r_fo56_0 (x : Operand) (ho : o.op = .fieldAddr 56 x 0) {b : Nat} (h : ρ x = .pointer (some ⟨b, 0, none⟩)) : (execOp ρ o).run Yba.prog w = .ok (.value (.pointer (some ⟨b, 0, none⟩))) w := by
  have u56 := Yba.underlying56
  unfold execOp; rw [ho]; simp only; go_simp
theorem r_fa56_0 (x : Operand) (ho : o.op = .fieldAddr 56 x 0) {b q : Nat} (h : ρ x = .pointer (some ⟨b, q, none⟩)) : (execOp ρ o).run Yba.prog w = .ok (.value (.pointer (some ⟨b, q, none⟩))) w := by
  have u56 := Yba.underlying56
  unfold execOp; rw [ho]; simp only; go_simp
theorem r_call30 (x0 x1 x2 : Operand) (ho : o.op = .call { callee := .value (.func 30), args := #[x0, x1, x2], argTypes := #[32, 32, 40] }) (hf : ρ (.func 30) = .func (.func 30) #[] #[]) {a0 a1 a2 : Value} (h0 : ρ x0 = a0) (h1 : ρ x1 = a1) (h2 : ρ x2 = a2) : (execOp ρ o).run Yba.prog w = .ok (.enter 30 #[a0, a1, a2]) w := by
  unfold execOp; rw [ho]; simp only; go_simp
theorem r_call31 (x0 x1 x2 : Operand) (ho : o.op = .call { callee := .value (.func 31), args := #[x0, x1, x2], argTypes := #[31, 31, 40] }) (hf : ρ (.func 31) = .func (.func 31) #[] #[]) {a0 a1 a2 : Value} (h0 : ρ x0 = a0) (h1 : ρ x1 = a1) (h2 : ρ x2 = a2) : (execOp ρ o).run Yba.prog w = .ok (.enter 31 #[a0, a1, a2]) w := by
  unfold execOp; rw [ho]; simp only; go_simp
theorem r_fo66_1 (x : Operand) (ho : o.op = .fieldAddr 66 x 1) {b : Nat} (h : ρ x = .pointer (some ⟨b, 0, none⟩)) : (execOp ρ o).run Yba.prog w = .ok (.value (.pointer (some ⟨b, 1, none⟩))) w := by
  have u66 := Yba.underlying66
  unfold execOp; rw [ho]; simp only; go_simp
theorem r_fa66_1 (x : Operand) (ho : o.op = .fieldAddr 66 x 1) {b q : Nat} (h : ρ x = .pointer (some ⟨b, q, none⟩)) : (execOp ρ o).run Yba.prog w = .ok (.value (.pointer (some ⟨b, q + 1, none⟩))) w := by
  have u66 := Yba.underlying66
  unfold execOp; rw [ho]; simp only; go_simp
theorem r_fo66_4 (x : Operand) (ho : o.op = .fieldAddr 66 x 4) {b : Nat} (h : ρ x = .pointer (some ⟨b, 0, none⟩)) : (execOp ρ o).run Yba.prog w = .ok (.value (.pointer (some ⟨b, 4, none⟩))) w := by
  have u66 := Yba.underlying66
  unfold execOp; rw [ho]; simp only; go_simp
theorem r_fa66_4 (x : Operand) (ho : o.op = .fieldAddr 66 x 4) {b q : Nat} (h : ρ x = .pointer (some ⟨b, q, none⟩)) : (execOp ρ o).run Yba.prog w = .ok (.value (.pointer (some ⟨b, q + 4, none⟩))) w := by
  have u66 := Yba.underlying66
  unfold execOp; rw [ho]; simp only; go_simp
theorem r_fo66_7 (x : Operand) (ho : o.op = .fieldAddr 66 x 7) {b : Nat} (h : ρ x = .pointer (some ⟨b, 0, none⟩)) : (execOp ρ o).run Yba.prog w = .ok (.value (.pointer (some ⟨b, 7, none⟩))) w := by
  have u66 := Yba.underlying66
  unfold execOp; rw [ho]; simp only; go_simp
theorem r_fa66_7 (x : Operand) (ho : o.op = .fieldAddr 66 x 7) {b q : Nat} (h : ρ x = .pointer (some ⟨b, q, none⟩)) : (execOp ρ o).run Yba.prog w = .ok (.value (.pointer (some ⟨b, q + 7, none⟩))) w := by
  have u66 := Yba.underlying66
  unfold execOp; rw [ho]; simp only; go_simp
theorem r_call34 (x0 x1 : Operand) (ho : o.op = .call { callee := .value (.func 34), args := #[x0, x1], argTypes := #[58, 21] }) (hf : ρ (.func 34) = .func (.func 34) #[] #[]) {a0 a1 : Value} (h0 : ρ x0 = a0) (h1 : ρ x1 = a1) : (execOp ρ o).run Yba.prog w = .ok (.enter 34 #[a0, a1]) w := by
  unfold execOp; rw [ho]; simp only; go_simp
theorem r_fo40_0 (x : Operand) (ho : o.op = .fieldAddr 40 x 0) {b : Nat} (h : ρ x = .pointer (some ⟨b, 0, none⟩)) : (execOp ρ o).run Yba.prog w = .ok (.value (.pointer (some ⟨b, 0, none⟩))) w := by
  have u40 := Yba.underlying40
  unfold execOp; rw [ho]; simp only; go_simp
theorem r_fa40_0 (x : Operand) (ho : o.op = .fieldAddr 40 x 0) {b q : Nat} (h : ρ x = .pointer (some ⟨b, q, none⟩)) : (execOp ρ o).run Yba.prog w = .ok (.value (.pointer (some ⟨b, q, none⟩))) w := by
  have u40 := Yba.underlying40
  unfold execOp; rw [ho]; simp only; go_simp
theorem r_fo40_1 (x : Operand) (ho : o.op = .fieldAddr 40 x 1) {b : Nat} (h : ρ x = .pointer (some ⟨b, 0, none⟩)) : (execOp ρ o).run Yba.prog w = .ok (.value (.pointer (some ⟨b, 1, none⟩))) w := by
  have u40 := Yba.underlying40
  unfold execOp; rw [ho]; simp only; go_simp
theorem r_fa40_1 (x : Operand) (ho : o.op = .fieldAddr 40 x 1) {b q : Nat} (h : ρ x = .pointer (some ⟨b, q, none⟩)) : (execOp ρ o).run Yba.prog w = .ok (.value (.pointer (some ⟨b, q + 1, none⟩))) w := by
  have u40 := Yba.underlying40
  unfold execOp; rw [ho]; simp only; go_simp
theorem r_fo58_3 (x : Operand) (ho : o.op = .fieldAddr 58 x 3) {b : Nat} (h : ρ x = .pointer (some ⟨b, 0, none⟩)) : (execOp ρ o).run Yba.prog w = .ok (.value (.pointer (some ⟨b, 5, none⟩))) w := by
  have u58 := Yba.underlying58
  unfold execOp; rw [ho]; simp only; go_simp
theorem r_fa58_3 (x : Operand) (ho : o.op = .fieldAddr 58 x 3) {b q : Nat} (h : ρ x = .pointer (some ⟨b, q, none⟩)) : (execOp ρ o).run Yba.prog w = .ok (.value (.pointer (some ⟨b, q + 5, none⟩))) w := by
  have u58 := Yba.underlying58
  unfold execOp; rw [ho]; simp only; go_simp
theorem r_fo56_7 (x : Operand) (ho : o.op = .fieldAddr 56 x 7) {b : Nat} (h : ρ x = .pointer (some ⟨b, 0, none⟩)) : (execOp ρ o).run Yba.prog w = .ok (.value (.pointer (some ⟨b, 11, none⟩))) w := by
  have u56 := Yba.underlying56
  unfold execOp; rw [ho]; simp only; go_simp
theorem r_fa56_7 (x : Operand) (ho : o.op = .fieldAddr 56 x 7) {b q : Nat} (h : ρ x = .pointer (some ⟨b, q, none⟩)) : (execOp ρ o).run Yba.prog w = .ok (.value (.pointer (some ⟨b, q + 11, none⟩))) w := by
  have u56 := Yba.underlying56
  unfold execOp; rw [ho]; simp only; go_simp
end
end Go.Proofs.Ybulkexuo
