import Derived.Test.YbulkeyzgB11
namespace Go.Proofs.Ybulkeyzg
open Go.RowKit
theorem info57' : ∃ i : TypeInfo, Yba.prog.info? 57 = some i ∧ i.zero = some (.agg #[.int .i64 0, .int .u8 0, .int .u8 0]) ∧ i.size = 3 ∧ i.bytes = 16 := by
  have h : (Yba.prog.info? 57).map (fun i => (i.zero, i.size, i.bytes)) = some (some (.agg #[.int .i64 0, .int .u8 0, .int .u8 0]), 3, 16) := by kernel_rfl
  obtain ⟨i, hi, h⟩ := Option.map_eq_some_iff.1 h
  simp only [Prod.mk.injEq] at h
  exact ⟨i, hi, h.1, h.2.1, h.2.2⟩
theorem info3' : ∃ i : TypeInfo, Yba.prog.info? 3 = some i ∧ i.zero = some (.int .i64 0) ∧ i.size = 1 ∧ i.bytes = 8 := by
  have h : (Yba.prog.info? 3).map (fun i => (i.zero, i.size, i.bytes)) = some (some (.int .i64 0), 1, 8) := by kernel_rfl
  obtain ⟨i, hi, h⟩ := Option.map_eq_some_iff.1 h
  simp only [Prod.mk.injEq] at h
  exact ⟨i, hi, h.1, h.2.1, h.2.2⟩
theorem info75' : ∃ i : TypeInfo, Yba.prog.info? 75 = some i ∧ i.zero = some (.pointer none) ∧ i.size = 1 ∧ i.bytes = 8 := by
  have h : (Yba.prog.info? 75).map (fun i => (i.zero, i.size, i.bytes)) = some (some (.pointer none), 1, 8) := by kernel_rfl
  obtain ⟨i, hi, h⟩ := Option.map_eq_some_iff.1 h
  simp only [Prod.mk.injEq] at h
  exact ⟨i, hi, h.1, h.2.1, h.2.2⟩
theorem info78' : ∃ i : TypeInfo, Yba.prog.info? 78 = some i ∧ i.zero = some (.pointer none) ∧ i.size = 1 ∧ i.bytes = 8 := by
  have h : (Yba.prog.info? 78).map (fun i => (i.zero, i.size, i.bytes)) = some (some (.pointer none), 1, 8) := by kernel_rfl
  obtain ⟨i, hi, h⟩ := Option.map_eq_some_iff.1 h
  simp only [Prod.mk.injEq] at h
  exact ⟨i, hi, h.1, h.2.1, h.2.2⟩

section
variable {ops : Array Oper} {o : Oper} {a : Act} {K : Act → World → Prop} {Q : Exit → Act → World → Prop} {E : Prop}
/-- 'append(mKeys[t], k)' at a step of a region that draws -/
theorem step_appK (s x : Nat) (hgd : o.guard = none) (ho : o.op = .call { callee := .builtin .append, args := #[.tmp s, .tmp x], argTypes := #[65, 65] }) (w : World) (base : Nat) (v : Value) (kv : KV) (k : Key) (B : Nat)
    (hown : w.ownsRow base 57 3 v kv.length (keysL kv)) (hl : kv.length ≤ 100000) (hbase : base ≤ w.heap.size) (hB : w.heap[B]? = some (.cells #[.int .i64 k.1, .int .u8 k.2.1, .int .u8 k.2.2] 57)) (hs : a.eval (.tmp s) = v) (hx : a.eval (.tmp x) = .slice (some ⟨B, 0, none⟩) 1 1)
    (h : ∀ g cap w', w'.ownsRow base 57 3 (.slice (some ⟨g, 0, none⟩) (kv.length + 1) cap) (kv.length + 1) (keysL kv ++ keyC k) → w.grownBy w' v.ownBlock → (v.ownBlock = some g ∨ g = w.heap.size) → g < w'.heap.size → K (a.put o.dst (.slice (some ⟨g, 0, none⟩) (kv.length + 1) cap)) w') :
    if Region.wanted o (yielded ops a.tmps) = true then Oper.wp Yba.prog o a w K Q else E := by
  obtain ⟨i, hi, hz, h1, h8⟩ := info57'
  exact step_append_lies (P := Yba.prog) w hgd (.tmp s) (.tmp x) 65 ho base 57 i _ 3 16 Yba.underlying65 hi hz h1 h8 rfl (by decide) v kv.length _ hs hown ⟨B, 0, none⟩ 1 1 (keyC k) hx rfl (World.news_of_block hB) (by simp [keyC, Value.oneCell']) (by decide) (by unfold maxLen; omega) (by omega) hbase _ rfl h
/-- 'append(.., n)' for a slice of ints -/
theorem step_appI (s x : Nat) (hgd : o.guard = none) (ho : o.op = .call { callee := .builtin .append, args := #[.tmp s, .tmp x], argTypes := #[33, 33] }) (w : World) (base : Nat) (v : Value) (n : Nat) (xs : List Value) (z : Int) (B : Nat)
    (hown : w.ownsRow base 3 1 v n xs) (hl : n ≤ 100000) (hbase : base ≤ w.heap.size) (hB : w.heap[B]? = some (.cells #[.int .i64 z] 3)) (hs : a.eval (.tmp s) = v) (hx : a.eval (.tmp x) = .slice (some ⟨B, 0, none⟩) 1 1)
    (h : ∀ g cap w', w'.ownsRow base 3 1 (.slice (some ⟨g, 0, none⟩) (n + 1) cap) (n + 1) (xs ++ [.int .i64 z]) → w.grownBy w' v.ownBlock → (v.ownBlock = some g ∨ g = w.heap.size) → g < w'.heap.size → K (a.put o.dst (.slice (some ⟨g, 0, none⟩) (n + 1) cap)) w') :
    if Region.wanted o (yielded ops a.tmps) = true then Oper.wp Yba.prog o a w K Q else E := by
  obtain ⟨i, hi, hz, h1, h8⟩ := info3'
  exact step_append_lies (P := Yba.prog) w hgd (.tmp s) (.tmp x) 33 ho base 3 i _ 1 8 Yba.underlying33 hi hz h1 h8 rfl (by decide) v n _ hs hown ⟨B, 0, none⟩ 1 1 [.int .i64 z] hx rfl (World.news_of_block hB) (by simp [Value.oneCell']) (by decide) (by unfold maxLen; omega) (by omega) hbase _ rfl h
/-- 'append(rec.held, h)' -/
theorem step_appH (s x : Nat) (hgd : o.guard = none) (ho : o.op = .call { callee := .builtin .append, args := #[.tmp s, .tmp x], argTypes := #[49, 49] }) (w : World) (base : Nat) (v : Value) (n : Nat) (xs : List Value) (z : Nat) (B : Nat)
    (hown : w.ownsRow base 75 1 v n xs) (hl : n ≤ 100000) (hbase : base ≤ w.heap.size) (hB : w.heap[B]? = some (.cells #[ptr z] 75)) (hs : a.eval (.tmp s) = v) (hx : a.eval (.tmp x) = .slice (some ⟨B, 0, none⟩) 1 1)
    (h : ∀ g cap w', w'.ownsRow base 75 1 (.slice (some ⟨g, 0, none⟩) (n + 1) cap) (n + 1) (xs ++ [ptr z]) → w.grownBy w' v.ownBlock → (v.ownBlock = some g ∨ g = w.heap.size) → g < w'.heap.size → K (a.put o.dst (.slice (some ⟨g, 0, none⟩) (n + 1) cap)) w') :
    if Region.wanted o (yielded ops a.tmps) = true then Oper.wp Yba.prog o a w K Q else E := by
  obtain ⟨i, hi, hz, h1, h8⟩ := info75'
  exact step_append_lies (P := Yba.prog) w hgd (.tmp s) (.tmp x) 49 ho base 75 i _ 1 8 Yba.underlying49 hi hz h1 h8 rfl (by decide) v n _ hs hown ⟨B, 0, none⟩ 1 1 [ptr z] hx rfl (World.news_of_block hB) (by simp [Value.oneCell', ptr]) (by decide) (by unfold maxLen; omega) (by omega) hbase _ rfl h
/-- 'append(reqs, q)' -/
theorem step_appQ (s x : Nat) (hgd : o.guard = none) (ho : o.op = .call { callee := .builtin .append, args := #[.tmp s, .tmp x], argTypes := #[67, 67] }) (w : World) (base : Nat) (v : Value) (n : Nat) (xs : List Value) (z : Nat) (B : Nat)
    (hown : w.ownsRow base 78 1 v n xs) (hl : n ≤ 100000) (hbase : base ≤ w.heap.size) (hB : w.heap[B]? = some (.cells #[ptr z] 78)) (hs : a.eval (.tmp s) = v) (hx : a.eval (.tmp x) = .slice (some ⟨B, 0, none⟩) 1 1)
    (h : ∀ g cap w', w'.ownsRow base 78 1 (.slice (some ⟨g, 0, none⟩) (n + 1) cap) (n + 1) (xs ++ [ptr z]) → w.grownBy w' v.ownBlock → (v.ownBlock = some g ∨ g = w.heap.size) → g < w'.heap.size → K (a.put o.dst (.slice (some ⟨g, 0, none⟩) (n + 1) cap)) w') :
    if Region.wanted o (yielded ops a.tmps) = true then Oper.wp Yba.prog o a w K Q else E := by
  obtain ⟨i, hi, hz, h1, h8⟩ := info78'
  exact step_append_lies (P := Yba.prog) w hgd (.tmp s) (.tmp x) 67 ho base 78 i _ 1 8 Yba.underlying67 hi hz h1 h8 rfl (by decide) v n _ hs hown ⟨B, 0, none⟩ 1 1 [ptr z] hx rfl (World.news_of_block hB) (by simp [Value.oneCell', ptr]) (by decide) (by unfold maxLen; omega) (by omega) hbase _ rfl h
end
end Go.Proofs.Ybulkeyzg
