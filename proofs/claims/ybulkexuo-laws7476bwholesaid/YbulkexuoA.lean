import Derived.Test.YbulkexuoN5
import Derived.Deep.AppendLies
import Derived.OneCell
namespace Go.Proofs.Ybulkexuo
open Go.RowKit

/-! ### a change of the world that touches only the blocks S (and new ones) -/
structure Touch (S : Nat → Prop) (w w' : World) : Prop where
  os : w'.os = w.os
  tape : w'.tape = w.tape
  output : w'.output = w.output
  size : w.heap.size ≤ w'.heap.size
  block : ∀ k, k < w.heap.size → ¬ S k → w'.heap[k]? = w.heap[k]?

namespace Touch
variable {S S' : Nat → Prop} {w w' w'' : World}
theorem refl (S : Nat → Prop) (w : World) : Touch S w w := ⟨rfl, rfl, rfl, Nat.le_refl _, fun _ _ _ => rfl⟩
theorem trans (h : Touch S w w') (k : Touch S w' w'') : Touch S w w'' :=
  ⟨k.os.trans h.os, k.tape.trans h.tape, k.output.trans h.output, Nat.le_trans h.size k.size, fun b hb hs => (k.block b (Nat.lt_of_lt_of_le hb h.size) hs).trans (h.block b hb hs)⟩
theorem mono (h : Touch S w w') (hs : ∀ b, b < w.heap.size → S b → S' b) : Touch S' w w' := ⟨h.os, h.tape, h.output, h.size, fun b hb hn => h.block b hb fun hb' => hn (hs b hb hb')⟩
theorem drewN (h : Touch S w w') (q : Nat) : Touch S w (w'.drewN q) := ⟨h.os, h.tape, h.output, h.size, h.block⟩
theorem drew (h : Touch S w w') : Touch S w w'.drew := ⟨h.os, h.tape, h.output, h.size, h.block⟩
theorem alloc (h : Touch S w w') (o : Obj) : Touch S w (w'.alloc o) :=
  ⟨h.os, h.tape, h.output, by show w.heap.size ≤ (w'.heap.push o).size; rw [Array.size_push]; have := h.size; omega, fun b hb hn => (Go.Deep.blk_alloc_lt _ _ _ (Nat.lt_of_lt_of_le hb h.size)).trans (h.block b hb hn)⟩
theorem setCell (h : Touch S w w') {a : Addr} (ha : S a.block ∨ w.heap.size ≤ a.block) (v : Value) : Touch S w (w'.setCell a v) := by
  refine ⟨by unfold World.setCell; split <;> exact h.os, by unfold World.setCell; split <;> exact h.tape, by unfold World.setCell; split <;> exact h.output, ?_, fun b hb hn => (Go.Deep.blk_setCell_other _ _ _ _ ?_).trans (h.block b hb hn)⟩
  · have : (w'.setCell a v).heap.size = w'.heap.size := by unfold World.setCell; split <;> simp
    rw [this]; exact h.size
  · intro e
    rcases ha with ha | ha
    · exact hn (e ▸ ha)
    · omega
theorem grown {row : Option Nat} (h : Touch S w w') (hg : w'.grownBy w'' row) (hr : ∀ k, row = some k → S k ∨ w.heap.size ≤ k) : Touch S w w'' :=
  ⟨hg.os.trans h.os, hg.tape.trans h.tape, hg.output.trans h.output, Nat.le_trans h.size hg.size, fun b hb hn => (hg.block b (Nat.lt_of_lt_of_le hb h.size) fun e => by
    rcases hr b e.symm with h1 | h1
    · exact hn h1
    · omega).trans (h.block b hb hn)⟩
theorem of_below (h : Below w.heap.size w w') : Touch S w w' := ⟨h.os, h.tape, h.output, h.size, fun b hb _ => h.block b hb⟩
theorem below {N : Nat} {w0 : World} (hb : Below N w0 w) (h : Touch S w w') (hN : N ≤ w.heap.size) (hs : ∀ b, b < w.heap.size → S b → N ≤ b) : Below N w0 w' :=
  ⟨h.os.trans hb.os, h.tape.trans hb.tape, h.output.trans hb.output, Nat.le_trans hb.size h.size, fun b hbN => (h.block b (by omega) fun hS => by have := hs b (by omega) hS; omega).trans (hb.block b hbN)⟩
theorem to_below (h : Touch (fun _ => False) w w') : Below w.heap.size w w' := ⟨h.os, h.tape, h.output, h.size, fun b hb => h.block b hb id⟩
end Touch
theorem setCell_size (w : World) (a : Addr) (v : Value) : (w.setCell a v).heap.size = w.heap.size := by unfold World.setCell; split <;> simp
theorem alloc_size (w : World) (o : Obj) : (w.alloc o).heap.size = w.heap.size + 1 := by show (w.heap.push o).size = _; rw [Array.size_push]

/-! ### append -/
section
variable {ops : Array Oper} {rest : List Oper} {o : Oper} {a : Act} {Q : Exit → Act → World → Prop} {w : World} {n : Nat} {L : List (Nat × Value)}
theorem kapp (hK : Kn n L a) (d s x t : Nat) (hd : o.dst = some d) (hn : d < n) (hgd : o.guard = none) (ho : o.op = .call { callee := .builtin .append, args := #[.tmp s, .tmp x], argTypes := #[t, t] }) (base : Nat) {e : TypeId} {z : Value} {size bytes : Nat} (ht : Yba.prog.underlying t = some (.slice e)) (hinfo : (Yba.prog.info? e).map (fun i => (i.zero, i.size, i.bytes)) = some (some z, size, bytes)) (hzs : z.cells.size = size) (hsz : 0 < size) (hby : bytes ≤ 16)
    {v : Value} {k : Nat} {xs : List Value} {ad : Addr} {m c : Nat} {news : List Value} (hs : lk L s = some v) (hx : lk L x = some (.slice (some ad) m c)) (hown : w.ownsRow base e size v k xs) (hl : news.length = m * size) (hnews : ∀ j u, news[j]? = some u → w.cell? (ad.add j) = some u) (h1 : ∀ u ∈ news, u.oneCell' = true) (hm : 0 < m) (hk : k + m ≤ 1000000) (hbase : base ≤ w.heap.size)
    (h : ∀ g cap w', w'.ownsRow base e size (.slice (some ⟨g, 0, none⟩) (k + m) cap) (k + m) (xs ++ news) → w.grownBy w' v.ownBlock → (v.ownBlock = some g ∨ g = w.heap.size) → g < w'.heap.size → ∀ a', Kn n ((d, .slice (some ⟨g, 0, none⟩) (k + m) cap) :: L) a' → wpList Yba.prog ops Q rest a' w') : wpList Yba.prog ops Q (o :: rest) a w := by
  obtain ⟨i, hi, hzz⟩ := Option.map_eq_some_iff.1 hinfo
  simp only [Prod.mk.injEq] at hzz
  obtain ⟨hz, h2, h3⟩ := hzz
  have hb : (k + m) * bytes ≤ 1000000 * 16 := Nat.mul_le_mul hk hby
  exact wpList_append_lies (P := Yba.prog) w hgd (.tmp s) (.tmp x) t ho base e i z size bytes ht hi hz h2 h3 hzs hsz v k xs (hK.rho _ _ hs) hown ad m c news (hK.rho _ _ hx) hl hnews h1 hm (by unfold maxLen; omega) (by omega) hbase _ rfl fun g cap w' a1 a2 a3 a4 => by rw [hd]; exact h g cap w' a1 a2 a3 a4 _ (hK.put hn _)
theorem kdapp {S : World → Prop} {fuel : Nat} {listed : Array Bool} {i : Nat} (hK : Kn n L a) (d s x t : Nat) (hr : Region.ready .any ops listed = [i]) (hi0 : ops[i]? = some o) (hd : o.dst = some d) (hn : d < n) (hgd : o.guard = none) (ho : o.op = .call { callee := .builtin .append, args := #[.tmp s, .tmp x], argTypes := #[t, t] }) (base : Nat) {e : TypeId} {z : Value} {size bytes : Nat} (ht : Yba.prog.underlying t = some (.slice e)) (hinfo : (Yba.prog.info? e).map (fun i => (i.zero, i.size, i.bytes)) = some (some z, size, bytes)) (hzs : z.cells.size = size) (hsz : 0 < size) (hby : bytes ≤ 16)
    {v : Value} {k : Nat} {xs : List Value} {ad : Addr} {m c : Nat} {news : List Value} (hs : lk L s = some v) (hx : lk L x = some (.slice (some ad) m c)) (hown : w.ownsRow base e size v k xs) (hl : news.length = m * size) (hnews : ∀ j u, news[j]? = some u → w.cell? (ad.add j) = some u) (h1 : ∀ u ∈ news, u.oneCell' = true) (hm : 0 < m) (hk : k + m ≤ 1000000) (hbase : base ≤ w.heap.size)
    (h : ∀ g cap w', w'.ownsRow base e size (.slice (some ⟨g, 0, none⟩) (k + m) cap) (k + m) (xs ++ news) → w.grownBy w' v.ownBlock → (v.ownBlock = some g ∨ g = w.heap.size) → g < w'.heap.size → S w' ∧ ∀ a', Kn n ((d, .slice (some ⟨g, 0, none⟩) (k + m) cap) :: L) a' → wpAnyH Yba.prog .any ops Q S fuel (listed.setIfInBounds i true) a' w') : wpAnyH Yba.prog .any ops Q S (fuel + 1) listed a w := by
  obtain ⟨i, hi, hzz⟩ := Option.map_eq_some_iff.1 hinfo
  simp only [Prod.mk.injEq] at hzz
  obtain ⟨hz, h2, h3⟩ := hzz
  have hb : (k + m) * bytes ≤ 1000000 * 16 := Nat.mul_le_mul hk hby
  refine wpAnyH_ready hr (by simp) ?_
  refine AllReadyH.cons hi0 (fun K' hK' => ?_) AllReadyH.nil
  exact step_append_lies (P := Yba.prog) w hgd (.tmp s) (.tmp x) t ho base e i z size bytes ht hi hz h2 h3 hzs hsz v k xs (hK.rho _ _ hs) hown ad m c news (hK.rho _ _ hx) hl hnews h1 hm (by unfold maxLen; omega) (by omega) hbase _ rfl fun g cap w' a1 a2 a3 a4 => by
    obtain ⟨b1, b2⟩ := h g cap w' a1 a2 a3 a4
    exact hK'.out _ _ b1 fun _ => by rw [hd]; exact b2 _ (hK.put hn _)
end
theorem info38' : (Yba.prog.info? 38).map (fun i => (i.zero, i.size, i.bytes)) = some (some (.agg #[.int .i32 0, .int .i32 0]), 2, 8) := by kernel_rfl
theorem info40' : (Yba.prog.info? 40).map (fun i => (i.zero, i.size, i.bytes)) = some (some (.agg #[.int .i32 0, .int .i32 0]), 2, 8) := by kernel_rfl
theorem info21' : (Yba.prog.info? 21).map (fun i => (i.zero, i.size, i.bytes)) = some (some (.int .i32 0), 1, 4) := by kernel_rfl
theorem info46' : (Yba.prog.info? 46).map (fun i => (i.zero, i.size, i.bytes)) = some (some (.agg #[.int .i32 0, .int .i32 0, .int .i32 0, .bool false]), 4, 16) := by kernel_rfl
theorem info27' : (Yba.prog.info? 27).map (fun i => (i.zero, i.size, i.bytes)) = some (some (.agg #[.int .i32 0, .int .i32 0, .int .i32 0, .int .i32 0]), 4, 16) := by kernel_rfl
theorem info4' : (Yba.prog.info? 4).map (fun i => (i.zero, i.size, i.bytes)) = some (some (.bool false), 1, 1) := by kernel_rfl

/-- a made row -/
theorem r_make1 {ρ : Operand → Value} {o : Oper} {w : World} (t e : TypeId) (z : Value) (bytes : Nat) (hz : z.cells = #[z]) (hb : bytes ≤ 24) (ht : Yba.prog.underlying t = some (.slice e)) (hinfo : (Yba.prog.info? e).map (fun i => (i.zero, i.size, i.bytes)) = some (some z, 1, bytes))
    (x y : Operand) (ho : o.op = .makeSlice t x y) {k : IntKind} {n : Nat} (hn : n ≤ 4096) (h : ρ x = .int k n) (h' : ρ y = .int k n) : (execOp ρ o).run Yba.prog w = .ok (.value (.slice (some ⟨w.heap.size, 0, none⟩) n n)) (w.alloc (.cells (madeCells #[z] n) e)) := by
  obtain ⟨i, hi, hzz⟩ := Option.map_eq_some_iff.1 hinfo
  simp only [Prod.mk.injEq] at hzz
  obtain ⟨h1, h2, h3⟩ := hzz
  have hb' : (i.bytes : Int) * (n : Int) ≤ 281474976710656 := by
    have : i.bytes * n ≤ 24 * 4096 := Nat.mul_le_mul (by omega) hn
    have h : ((i.bytes * n : Nat) : Int) ≤ 281474976710656 := by omega
    rwa [Int.natCast_mul] at h
  have hr := run_make (P := Yba.prog) w t e i _ ht hi h1 k k n n (by omega) (Int.le_refl _) hb' (by omega)
  simp only [Int.toNat_natCast, h2, Nat.mul_one, hz] at hr
  unfold execOp; rw [ho]; simp only; go_simp

/-! ### rows that the call owns -/
theorem blk_setCell_same {w : World} {g j : Nat} {cur : Array Value} {e : TypeId} (h : w.heap[g]? = some (.cells cur e (0, 0))) (u : Value) : (w.setCell ⟨g, j, none⟩ u).heap[g]? = some (.cells (cur.setIfInBounds j u) e (0, 0)) := by
  unfold World.setCell
  simp only [Array.getElem?_modify, if_true, h, Option.map_some]
  rfl

section
variable {w : World} {base : Nat} {e : TypeId} {size : Nat} {n g cap : Nat} {xs : List Value}
theorem own_set (h : w.ownsRow base e size (.slice (some ⟨g, 0, none⟩) n cap) n xs) (j : Nat) (u : Value) : (w.setCell ⟨g, j, none⟩ u).ownsRow base e size (.slice (some ⟨g, 0, none⟩) n cap) n (xs.set j u) := by
  refine ⟨by rw [List.length_set]; exact h.1, ?_⟩
  rcases h.2 with ⟨h1, _⟩ | ⟨g', cap', cur, h1, h2, h3, h4, h5, h6, h7⟩
  · cases h1
  · cases h1
    refine .inr ⟨g, cap, _, rfl, h2, blk_setCell_same h3 u, h4, h5, by rw [Array.size_setIfInBounds]; exact h6, ?_⟩
    rw [Array.toList_setIfInBounds, ← h7, List.take_set]
theorem own_cell (h : w.ownsRow base e size (.slice (some ⟨g, 0, none⟩) n cap) n xs) {j : Nat} {u : Value} (hu : xs[j]? = some u) : w.cell? ⟨g, j, none⟩ = some u ∧ w.frozen? ⟨g, j, none⟩ = false := by
  have h1 := h.cells (g := g) rfl j u hu
  have hadd : (⟨g, 0, none⟩ : Addr).add j = ⟨g, j, none⟩ := by unfold Addr.add; split <;> simp_all
  rw [hadd] at h1
  refine ⟨h1, ?_⟩
  rcases h.2 with ⟨h1, _⟩ | ⟨g', cap', cur, h1, h2, h3, h4⟩
  · cases h1
  · cases h1
    simp [World.frozen?, h3]
end
theorem own_slice {w : World} {base : Nat} {e : TypeId} {size : Nat} {v : Value} {n : Nat} {xs : List Value} (h : w.ownsRow base e size v n xs) : (v = .slice none 0 0 ∧ n = 0) ∨ ∃ g cap, v = .slice (some ⟨g, 0, none⟩) n cap ∧ n ≤ cap ∧ cap ≤ maxLen := by
  rcases h.2 with h1 | ⟨g, cap, cur, h1, h2, h3, h4, h5, _⟩
  · exact .inl h1
  · exact .inr ⟨g, cap, h1, h4, h5⟩
theorem own_block {w w' : World} {base : Nat} {e : TypeId} {size : Nat} {v : Value} {n : Nat} {xs : List Value} (h : w.ownsRow base e size v n xs) (hb : ∀ g, v.ownBlock = some g → w'.heap[g]? = w.heap[g]?) : w'.ownsRow base e size v n xs := by
  refine ⟨h.1, ?_⟩
  rcases h.2 with h1 | ⟨g, cap, cur, rfl, h2, h3, h4⟩
  · exact .inl h1
  · exact .inr ⟨g, cap, cur, rfl, h2, (hb g rfl).trans h3, h4⟩
theorem row_ne {w : World} {b b' : Nat} {t t' : TypeId} {n n' : Nat} {f f' : Nat → Value} (h : w.rowIs b t n f) (h' : w.rowIs b' t' n' f') (ht : t ≠ t') : b ≠ b' := by
  obtain ⟨c, h1, _⟩ := h
  obtain ⟨c', h2, _⟩ := h'
  rintro rfl
  rw [h1] at h2
  cases h2
  exact ht rfl
theorem own_ne {w : World} {base : Nat} {e : TypeId} {size : Nat} {v : Value} {k : Nat} {xs : List Value} (h : w.ownsRow base e size v k xs) {b : Nat} {t : TypeId} {n : Nat} {f : Nat → Value} (h' : w.rowIs b t n f) (ht : e ≠ t) : v.ownBlock ≠ some b := by
  intro hv
  rcases h.2 with ⟨rfl, _⟩ | ⟨g, cap, cur, rfl, h2, h3, h4⟩
  · cases hv
  · cases hv
    obtain ⟨c, h1, _⟩ := h'
    rw [h3] at h1
    cases h1
    exact ht rfl
end Go.Proofs.Ybulkexuo
