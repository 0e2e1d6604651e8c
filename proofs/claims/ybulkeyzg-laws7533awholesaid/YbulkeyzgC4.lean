import Derived.Test.YbulkeyzgC3
namespace Go.Proofs.Ybulkeyzg
open Go.RowKit

/-! ### single operations of region 75, over whatever frame -/
section
variable {ρ : Operand → Value} {o : Oper} {w : World}
theorem r_move (x : Operand) (ho : o.op = .move x) {v : Value} (h : ρ x = v) : (execOp ρ o).run Yba.prog w = .ok (.value v) w := by
  unfold execOp; rw [ho]; simp [h]
theorem r_nil (x : Operand) (ho : o.op = .nilCheck x) {ad : Addr} (h : ρ x = .pointer (some ad)) : (execOp ρ o).run Yba.prog w = .ok (.value (.pointer (some ad))) w := by
  unfold execOp; rw [ho]; simp only; go_simp
theorem r_f72 (x : Operand) (ho : o.op = .fieldAddr 72 x 9) {b : Nat} (h : ρ x = .pointer (some ⟨b, 0, none⟩)) : (execOp ρ o).run Yba.prog w = .ok (.value (.pointer (some ⟨b, 9, none⟩))) w := by
  unfold execOp; rw [ho]; simp only; have u := Yba.underlying72; go_simp
theorem r_f74 (k : Nat) (hk : k < 4) (x : Operand) (ho : o.op = .fieldAddr 74 x k) {b : Nat} (h : ρ x = .pointer (some ⟨b, 0, none⟩)) : (execOp ρ o).run Yba.prog w = .ok (.value (.pointer (some ⟨b, k, none⟩))) w := by
  have u := Yba.underlying74
  match k, hk with
  | 0, _ => unfold execOp; rw [ho]; simp only; go_simp
  | 1, _ => unfold execOp; rw [ho]; simp only; go_simp
  | 2, _ => unfold execOp; rw [ho]; simp only; go_simp
  | 3, _ => unfold execOp; rw [ho]; simp only; go_simp
theorem r_load (t : Nat) (ht : t = 49 ∨ t = 5 ∨ t = 45 ∨ t = 4) (x : Operand) (ho : o.op = .load t x) {b q : Nat} (h : ρ x = .pointer (some ⟨b, q, none⟩)) {v : Value} (hc : w.cell? ⟨b, q, none⟩ = some v) : (execOp ρ o).run Yba.prog w = .ok (.value v) w := by
  have u1 := Yba.underlying49
  have u2 := Yba.underlying5
  have u3 := Yba.underlying45
  have u4 := Yba.underlying4
  rcases ht with rfl | rfl | rfl | rfl
  · unfold execOp; rw [ho]; simp only; go_simp
  · unfold execOp; rw [ho]; simp only; go_simp
  · unfold execOp; rw [ho]; simp only; go_simp
  · unfold execOp; rw [ho]; simp only; go_simp
theorem r_conv (x : Operand) (ho : o.op = .convert 5 3 x) {n : Nat} (hn : n < 256) (h : ρ x = .int .u8 n) : (execOp ρ o).run Yba.prog w = .ok (.value (.int .i64 n)) w := by
  have u2 := Yba.underlying5
  have u3 := Yba.underlying3
  have hw : IntKind.i64.wrap (n : Int) = n := by rw [IntKind.wrap_i64]; omega
  unfold execOp; rw [ho]; simp only; go_simp
theorem r_rem3 (x y : Operand) (ho : o.op = .binOp .rem 3 x y 3) {n m : Nat} (hm : 0 < m) (h : ρ x = .int .i64 n) (h' : ρ y = .int .i64 m) : (execOp ρ o).run Yba.prog w = .ok (.value (.int .i64 (n % m : Nat))) w := by
  have u3 := Yba.underlying3
  have h0 : ¬ m = 0 := by omega
  unfold execOp; rw [ho]; simp only; go_simp
  rw [Int.tmod_eq_emod_of_nonneg (by omega)]
theorem r_rem5 (x : Operand) (c : Nat) (hc : c = 3 ∨ c = 4) (ho : o.op = .binOp .rem 5 x (.const (.int .u8 c)) 5) {n : Nat} (h : ρ x = .int .u8 n) (hk : ρ (.const (.int .u8 c)) = .int .u8 c) : (execOp ρ o).run Yba.prog w = .ok (.value (.int .u8 (n % c : Nat))) w := by
  have u3 := Yba.underlying5
  have h0 : ¬ c = 0 := by omega
  unfold execOp; rw [ho]; simp only; go_simp
  rw [Int.tmod_eq_emod_of_nonneg (by omega)]
theorem r_idx42 (x y : Operand) (ho : o.op = .indexAddr 42 x y) {b n c i : Nat} (hi : i < n) (h : ρ x = .slice (some ⟨b, 0, none⟩) n c) (h' : ρ y = .int .i64 i) : (execOp ρ o).run Yba.prog w = .ok (.value (.pointer (some ⟨b, i, none⟩))) w := by
  have u3 := Yba.underlying42
  have u4 := Yba.underlying45
  have h0 : (0 : Int) ≤ i := by omega
  have h1 : (i : Int) < n := by omega
  unfold execOp; rw [ho]; simp only; go_simp
theorem r_b61 (x y : Operand) (ho : o.op = .build 61 #[(0, x), (1, y)]) {m k : Int} (h : ρ x = .int .u8 m) (h' : ρ y = .int .u8 k) : (execOp ρ o).run Yba.prog w = .ok (.value (.agg #[.int .u8 m, .int .u8 k])) w := by
  have u3 := Yba.underlying61
  unfold execOp; rw [ho]; simp only; go_simp
theorem r_b77 (x y z u : Operand) (ho : o.op = .build 77 #[(0, x), (1, y), (2, z), (4, u)]) {m k : Int} {imp : Bool} {a b : Nat} (h : ρ x = ptr a) (h' : ρ y = .agg #[.int .u8 m, .int .u8 k]) (h2 : ρ z = ptr b) (h3 : ρ u = .bool imp) :
    (execOp ρ o).run Yba.prog w = .ok (.value (.agg #[ptr a, .int .u8 m, .int .u8 k, ptr b, .int .i64 0, .bool imp, .bool false])) w := by
  unfold ptr at *
  have u3 := Yba.underlying77
  unfold execOp; rw [ho]; simp only; go_simp
theorem r_box (x : Operand) (ho : o.op = .box 77 x) {cs : Array Value} (h : ρ x = .agg cs) : (execOp ρ o).run Yba.prog w = .ok (.value (ptr w.heap.size)) (w.alloc (.cells cs 77)) := by
  unfold ptr
  unfold execOp; rw [ho]; simp only; go_simp
theorem r_bsl (x : Operand) (ho : o.op = .buildSlice 49 1 #[(0, x)]) {b : Nat} (h : ρ x = ptr b) : (execOp ρ o).run Yba.prog w = .ok (.value (.slice (some ⟨w.heap.size, 0, none⟩) 1 1)) (w.alloc (.cells #[ptr b] 75)) := by
  unfold ptr at *
  have u3 := Yba.underlying49
  unfold execOp; rw [ho]; simp only; go_simp
theorem r_store (x y : Operand) (ho : o.op = .store 49 x y) {b q g n c : Nat} {v' : Value} (h : ρ x = .pointer (some ⟨b, q, none⟩)) (h' : ρ y = .slice (some ⟨g, 0, none⟩) n c) (hc : w.cell? ⟨b, q, none⟩ = some v') (hz : w.frozen? ⟨b, q, none⟩ = false) : (execOp ρ o).run Yba.prog w = .ok .skip (w.setCell ⟨b, q, none⟩ (.slice (some ⟨g, 0, none⟩) n c)) := by
  have u3 := Yba.underlying49
  unfold execOp; rw [ho]; simp only; go_simp
end

section
variable {P : Program} {ops : Array Oper} {S : World → Prop} {o : Oper} {a : Act} {w : World} {v : Value} {K : Act → World → Prop} {Q : Exit → Act → World → Prop} {E : Prop}
theorem y_run (hg : o.guard = none) (h : ∀ w, S w → (execOp a.eval o).run P w = .ok (.value v) w) : YieldsIf P ops S o v a := Or.inl ⟨by simp [Region.wanted, hg], h⟩
theorem wp_val {w' : World} (hg : o.guard = none) (h : (execOp a.eval o).run P w = .ok (.value v) w') (hk : K (a.put o.dst v) w') : if Region.wanted o (yielded ops a.tmps) = true then Oper.wp P o a w K Q else E := by
  rw [if_pos (by simp [Region.wanted, hg])]
  unfold Oper.wp
  rw [h]
  exact hk
end

/-- the slots of a record's round -/
structure LvR (I : Inp) (psB mbB tsB rsB : Nat) (B : MB) (i inB ra : Nat) (rqv wtv : Value) (a : Act) : Prop extends Lv2 I psB mbB tsB B a where
  s29 : a.tmps[29]? = some (.slice (some ⟨rsB, 0, none⟩) I.lr I.lr)
  s30 : a.tmps[30]? = some rqv
  s31 : a.tmps[31]? = some wtv
  s32 : a.tmps[32]? = some (.int .i64 i)
  s33 : a.tmps[33]? = some (ptr inB)
  s34 : a.tmps[34]? = some (.int .i64 (I.D.p i))
  s35 : a.tmps[35]? = some (ptr ra)
def inL (I : Inp) (i : Nat) : List Value := [.int .u8 (I.R i).pg, .int .i64 (I.R i).heap, .bool (I.R i).sup, .slice (I.hA i) (I.R i).nh (I.hc i), .slice (I.wA i) (I.R i).nw (I.wc i)]
def NH (I : Inp) (k : Nat) : Nat := (I.R k).nh
def NW (I : Inp) (k : Nat) : Nat := (I.R k).nw
/-- the state in record i's round: n in 'rs', its first x locks and y requests made -/
def RSt (I : Inp) (w0 w : World) (psB mbB tsB rsB : Nat) (B : MB) (i inB ra n x y : Nat) (σ : Nat → TS) (wt : List Int) (rqv wtv : Value) : Prop :=
  ∃ lab A ks vs, A.ra i = ra ∧ Tmp lab w inB (inL I i) ∧ RS I w0 lab w A psB mbB tsB rsB B ks vs n (i + 1) (upd (NH I) i x) (upd (NW I) i y) (I.D.off i + y) (fun t => (σ t).s) (fun t => (σ t).f) (fun t => (σ t).kv) (fun t => (σ t).kv) wt rqv wtv
end Go.Proofs.Ybulkeyzg
