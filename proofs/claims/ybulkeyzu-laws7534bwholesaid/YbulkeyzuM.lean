import Derived.Test.YbulkeyzuD
namespace Go.Proofs.Ybulkeyzu
open Go.RowKit

/-- AHEAD OF ROUND k OF THE MATRIX: k rows of each table are there -/
structure Mh (wL : World) (T n : Nat) (g : G) (k : Nat) (wx : World) : Prop where
  bel : Below T wL wx
  size : wx.heap.size = T + 2 + 2 * k
  r : wx.rowIs T 25 n (upto k (fun j => .slice (some ⟨T + 2 + 2 * j, 0, none⟩) n n) (.slice none 0 0))
  s : wx.rowIs (T + 1) 25 n (upto k (fun j => .slice (some ⟨T + 3 + 2 * j, 0, none⟩) n n) (.slice none 0 0))
  rr : ∀ j, j < k → wx.rowIs (T + 2 + 2 * j) 4 n (fun t => .bool (reach g j t))
  ss : ∀ j, j < k → wx.rowIs (T + 3 + 2 * j) 4 n (fun t => .bool (sreach g j t))

/-- IN ROUND k: the two new rows hold X and Y -/
structure Mt (wL : World) (T n : Nat) (g : G) (k : Nat) (X Y : Nat → Bool) (wx : World) : Prop where
  bel : Below T wL wx
  size : wx.heap.size = T + 2 + 2 * k + 2
  r : wx.rowIs T 25 n (upto (k + 1) (fun j => .slice (some ⟨T + 2 + 2 * j, 0, none⟩) n n) (.slice none 0 0))
  s : wx.rowIs (T + 1) 25 n (upto (k + 1) (fun j => .slice (some ⟨T + 3 + 2 * j, 0, none⟩) n n) (.slice none 0 0))
  rr : ∀ j, j < k → wx.rowIs (T + 2 + 2 * j) 4 n (fun t => .bool (reach g j t))
  ss : ∀ j, j < k → wx.rowIs (T + 3 + 2 * j) 4 n (fun t => .bool (sreach g j t))
  x : wx.rowIs (T + 2 + 2 * k) 4 n (fun t => .bool (X t))
  y : wx.rowIs (T + 3 + 2 * k) 4 n (fun t => .bool (Y t))

section
variable {wL : World} {T n : Nat} {g : G} {k : Nat} {X Y : Nat → Bool} {wx : World}

theorem Mt.setX (h : Mt wL T n g k X Y wx) (j : Nat) : Mt wL T n g k (fun t => X t || decide (t = j)) Y (wx.setCell ⟨T + 2 + 2 * k, j, none⟩ (.bool true)) := by
  refine ⟨h.bel.setCell (by show T ≤ _; simp only; omega) _, by rw [St.size_set]; exact h.size, h.r.setOther (by simp only; omega) _, h.s.setOther (by simp only; omega) _, fun q hq => (h.rr q hq).setOther (by simp only; omega) _, fun q hq => (h.ss q hq).setOther (by simp only; omega) _, (h.x.set j _).congr fun t _ => ?_, h.y.setOther (by simp only; omega) _⟩
  by_cases e : t = j
  · simp [e]
  · simp [e]
theorem Mt.setY (h : Mt wL T n g k X Y wx) (j : Nat) : Mt wL T n g k X (fun t => Y t || decide (t = j)) (wx.setCell ⟨T + 3 + 2 * k, j, none⟩ (.bool true)) := by
  refine ⟨h.bel.setCell (by show T ≤ _; simp only; omega) _, by rw [St.size_set]; exact h.size, h.r.setOther (by simp only; omega) _, h.s.setOther (by simp only; omega) _, fun q hq => (h.rr q hq).setOther (by simp only; omega) _, fun q hq => (h.ss q hq).setOther (by simp only; omega) _, h.x.setOther (by simp only; omega) _, (h.y.set j _).congr fun t _ => ?_⟩
  by_cases e : t = j
  · simp [e]
  · simp [e]
theorem Mt.congr {X' Y' : Nat → Bool} (h : Mt wL T n g k X Y wx) (ex : ∀ t, t < n → X t = X' t) (ey : ∀ t, t < n → Y t = Y' t) : Mt wL T n g k X' Y' wx :=
  ⟨h.bel, h.size, h.r, h.s, h.rr, h.ss, h.x.congr fun t ht => by rw [ex t ht], h.y.congr fun t ht => by rw [ey t ht]⟩
theorem Mt.next (h : Mt wL T n g k X Y wx) (ex : ∀ t, t < n → X t = reach g k t) (ey : ∀ t, t < n → Y t = sreach g k t) : Mh wL T n g (k + 1) wx := by
  refine ⟨h.bel, by rw [h.size]; omega, h.r, h.s, fun j hj => ?_, fun j hj => ?_⟩
  · by_cases e : j = k
    · subst e; exact h.x.congr fun t ht => by rw [ex t ht]
    · exact h.rr j (by omega)
  · by_cases e : j = k
    · subst e; exact h.y.congr fun t ht => by rw [ey t ht]
    · exact h.ss j (by omega)

/-- one more index is merged in -/
theorem bump_yes {Z R : Nat → Bool} {j : Nat} (h : R j = true) (t : Nat) : ((Z t || (decide (t < j) && R t)) || decide (t = j)) = (Z t || (decide (t < j + 1) && R t)) := by
  by_cases e : t = j
  · subst e; simp [h]
  · have : (t < j + 1) = (t < j) := by simp; omega
    simp [e, this]
theorem bump_no {Z R : Nat → Bool} {j : Nat} (h : R j = false) (t : Nat) : (Z t || (decide (t < j) && R t)) = (Z t || (decide (t < j + 1) && R t)) := by
  by_cases e : t = j
  · subst e; simp [h]
  · have : (t < j + 1) = (t < j) := by simp; omega
    simp [this]
theorem bump_start {Z R : Nat → Bool} (t : Nat) : Z t = (Z t || (decide (t < 0) && R t)) := by simp
theorem bump_end {Z R : Nat → Bool} {n : Nat} (t : Nat) (h : t < n) : (Z t || (decide (t < n) && R t)) = (Z t || R t) := by simp [h]
end

theorem mh_start (wL : World) (n : Nat) (g : G) : Mh wL wL.heap.size n g 0 ((wL.alloc (Obj.cells (madeCells #[Value.slice none 0 0] n) 25)).alloc (Obj.cells (madeCells #[Value.slice none 0 0] n) 25)) := by
  have z0 := World.rowIs_made wL (.slice none 0 0) n 25
  have b1 : Below wL.heap.size wL (wL.alloc (Obj.cells (madeCells #[Value.slice none 0 0] n) 25)) := (Below.refl _ _).alloc (Nat.le_refl _) _
  have s1 : (wL.alloc (Obj.cells (madeCells #[Value.slice none 0 0] n) 25)).heap.size = wL.heap.size + 1 := by simp
  generalize wL.alloc (Obj.cells (madeCells #[Value.slice none 0 0] n) 25) = w1 at *
  have z1 := World.rowIs_made w1 (.slice none 0 0) n 25
  have b2 : Below w1.heap.size w1 (w1.alloc (Obj.cells (madeCells #[Value.slice none 0 0] n) 25)) := (Below.refl _ _).alloc (Nat.le_refl _) _
  have s2 : (w1.alloc (Obj.cells (madeCells #[Value.slice none 0 0] n) 25)).heap.size = w1.heap.size + 1 := by simp
  generalize w1.alloc (Obj.cells (madeCells #[Value.slice none 0 0] n) 25) = w2 at *
  rw [s1] at z1
  exact ⟨b1.trans (b2.mono (by omega)), by omega, (z0.of_block (b2.block _ (by omega))).congr fun j _ => (upto_zero _ _ _).symm, z1.congr fun j _ => (upto_zero _ _ _).symm, fun j hj => by omega, fun j hj => by omega⟩

def supR (g : G) (k t : Nat) : Bool := match g.sup k with | some p => reach g p t | none => false
theorem supR_none {g : G} {k : Nat} (h : g.sup k = none) (t : Nat) : supR g k t = false := by unfold supR; rw [h]
theorem supR_some {g : G} {k s : Nat} (h : g.sup k = some s) (t : Nat) : supR g k t = reach g s t := by unfold supR; rw [h]
theorem reach_sup {g : G} {n : Nat} (hg : IsG g n) {s : Nat} (hs : s < n) (t : Nat) : ((s == t) || supR g s t || anyTo (fun j => reach g (g.f s j) t) (g.m s)) = reach g s t := by
  rw [reach_eq hg hs t, Bool.or_assoc]; rfl
theorem sreach_none {g : G} {n : Nat} (hg : IsG g n) {s : Nat} (hs : s < n) (h : g.sup s = none) (t : Nat) : (s == t) = sreach g s t := by
  rw [sreach_eq hg hs t, h, Bool.or_false]
theorem sreach_some {g : G} {n : Nat} (hg : IsG g n) {s p : Nat} (hs : s < n) (h : g.sup s = some p) (t : Nat) : ((s == t) || sreach g p t) = sreach g s t := by
  rw [sreach_eq hg hs t, h]

/-- the two new rows are made -/
theorem Mh.make {wL : World} {T n : Nat} {g : G} {k : Nat} {wx : World} (h : Mh wL T n g k wx) {wy : World}
    (e : wy = (((wx.setCell ⟨T, k, none⟩ (.slice (some ⟨wx.heap.size, 0, none⟩) n n)).setCell ⟨T + 1, k, none⟩ (.slice (some ⟨wx.heap.size + 1, 0, none⟩) n n)).alloc (Obj.cells (madeCells #[Value.bool false] n) 4)).alloc (Obj.cells (madeCells #[Value.bool false] n) 4)) :
    Mt wL T n g k (fun _ => false) (fun _ => false) wy := by
  have hs := h.size
  rw [hs] at e
  have r1 := (h.r.set k (.slice (some ⟨T + 2 + 2 * k, 0, none⟩) n n)).setOther (a := ⟨T + 1, k, none⟩) (by simp) (.slice (some ⟨T + 2 + 2 * k + 1, 0, none⟩) n n)
  have r2 := (h.s.setOther (a := ⟨T, k, none⟩) (by simp) (.slice (some ⟨T + 2 + 2 * k, 0, none⟩) n n)).set k (.slice (some ⟨T + 2 + 2 * k + 1, 0, none⟩) n n)
  have b1 : Below T wL ((wx.setCell ⟨T, k, none⟩ (.slice (some ⟨T + 2 + 2 * k, 0, none⟩) n n)).setCell ⟨T + 1, k, none⟩ (.slice (some ⟨T + 2 + 2 * k + 1, 0, none⟩) n n)) := (h.bel.setCell (by simp) _).setCell (by simp) _
  have rr1 : ∀ j, j < k → ((wx.setCell ⟨T, k, none⟩ (.slice (some ⟨T + 2 + 2 * k, 0, none⟩) n n)).setCell ⟨T + 1, k, none⟩ (.slice (some ⟨T + 2 + 2 * k + 1, 0, none⟩) n n)).rowIs (T + 2 + 2 * j) 4 n (fun t => .bool (reach g j t)) := fun j hj => ((h.rr j hj).setOther (by simp only; omega) _).setOther (by simp only; omega) _
  have ss1 : ∀ j, j < k → ((wx.setCell ⟨T, k, none⟩ (.slice (some ⟨T + 2 + 2 * k, 0, none⟩) n n)).setCell ⟨T + 1, k, none⟩ (.slice (some ⟨T + 2 + 2 * k + 1, 0, none⟩) n n)).rowIs (T + 3 + 2 * j) 4 n (fun t => .bool (sreach g j t)) := fun j hj => ((h.ss j hj).setOther (by simp only; omega) _).setOther (by simp only; omega) _
  have s1 : ((wx.setCell ⟨T, k, none⟩ (.slice (some ⟨T + 2 + 2 * k, 0, none⟩) n n)).setCell ⟨T + 1, k, none⟩ (.slice (some ⟨T + 2 + 2 * k + 1, 0, none⟩) n n)).heap.size = T + 2 + 2 * k := by rw [St.size_set, St.size_set, hs]
  generalize (wx.setCell ⟨T, k, none⟩ (.slice (some ⟨T + 2 + 2 * k, 0, none⟩) n n)).setCell ⟨T + 1, k, none⟩ (.slice (some ⟨T + 2 + 2 * k + 1, 0, none⟩) n n) = w1 at *
  have z0 := World.rowIs_made w1 (.bool false) n 4
  have b2 : Below w1.heap.size w1 (w1.alloc (Obj.cells (madeCells #[Value.bool false] n) 4)) := (Below.refl _ _).alloc (Nat.le_refl _) _
  have s2 : (w1.alloc (Obj.cells (madeCells #[Value.bool false] n) 4)).heap.size = w1.heap.size + 1 := by simp
  generalize w1.alloc (Obj.cells (madeCells #[Value.bool false] n) 4) = w2 at *
  have z1 := World.rowIs_made w2 (.bool false) n 4
  have b3 : Below w2.heap.size w2 (w2.alloc (Obj.cells (madeCells #[Value.bool false] n) 4)) := (Below.refl _ _).alloc (Nat.le_refl _) _
  have s3 : (w2.alloc (Obj.cells (madeCells #[Value.bool false] n) 4)).heap.size = w2.heap.size + 1 := by simp
  rw [← e] at z1 b3 s3
  have b4 : Below w1.heap.size w1 wy := b2.trans (b3.mono (by omega))
  rw [s1] at z0
  rw [s2, s1] at z1
  refine ⟨b1.trans (b4.mono (by omega)), by omega, (r1.of_block (b4.block _ (by omega))).congr fun j _ => upto_succ k (fun j => .slice (some ⟨T + 2 + 2 * j, 0, none⟩) n n) _ j, (r2.of_block (b4.block _ (by omega))).congr fun j _ => ?_, fun j hj => (rr1 j hj).of_block (b4.block _ (by omega)), fun j hj => (ss1 j hj).of_block (b4.block _ (by omega)), z0.of_block (b3.block _ (by omega)), ?_⟩
  · rw [show T + 2 + 2 * k + 1 = T + 3 + 2 * k by omega]
    exact upto_succ k (fun j => .slice (some ⟨T + 3 + 2 * j, 0, none⟩) n n) _ j
  · rw [show T + 3 + 2 * k = T + 2 + 2 * k + 1 by omega]
    exact z1

theorem asg_fuel {g : G} {n : Nat} (hg : IsG g n) : ∀ k k' a b, a < n → a < k → a < k' → asg g k a b = asg g k' a b
  | 0, _, _, _, _, h, _ => by omega
  | _, 0, _, _, _, _, h => by omega
  | k + 1, k' + 1, a, b, hn, h, h' => by
    obtain ⟨_, h2, _⟩ := hg a hn
    rw [asg, asg]
    split
    · rfl
    · cases e : g.cmp a with
      | none => rfl
      | some a' =>
        cases e' : g.cmp b with
        | none => rfl
        | some b' => have := h2 a' e; exact asg_fuel hg k k' a' b' (by omega) (by omega) (by omega)

theorem asg_plain {g : G} {a b : Nat} (h : g.arr b = false ∨ g.arr a = false) : asg g (a + 1) a b = if g.isf b then reach g a b else sreach g a b := by
  rw [asg]
  rcases h with h | h
  · rw [h]; rfl
  · rw [h, Bool.or_comm]; rfl
theorem asg_nil {g : G} {a b : Nat} (hb : g.arr b = true) (ha : g.arr a = true) (h : g.cmp a = none ∨ g.cmp b = none) : asg g (a + 1) a b = (a == b) := by
  rw [asg, hb, ha]
  rcases h with h | h
  · rw [h]; rfl
  · rw [h]
    cases g.cmp a <;> rfl
theorem asg_some {g : G} {n : Nat} (hg : IsG g n) {a b a' b' : Nat} (hn : a < n) (hb : g.arr b = true) (ha : g.arr a = true) (h : g.cmp a = some a') (h' : g.cmp b = some b') : asg g (a + 1) a b = asg g (a' + 1) a' b' := by
  have hlt := (hg a hn).2.1 a' h
  rw [asg, hb, ha, h, h']
  exact asg_fuel hg a (a' + 1) a' b' (by omega) hlt (by omega)
end Go.Proofs.Ybulkeyzu
