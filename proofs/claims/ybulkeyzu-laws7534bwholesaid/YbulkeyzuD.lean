import Derived.Test.YbulkeyzuG
namespace Go.Proofs.Ybulkeyzu
open Go.RowKit

/-- one node of the given data -/
structure Nd where
  arr : Bool
  isf : Bool
  sp : Nat
  cp : Nat
  A : Option Addr
  l : Nat
  c : Nat
  I : Nat → Nat

/-- an index below i, or none -/
def pk (s i : Nat) : Option Nat := if i = 0 then none else if s % (i + 1) < i then some (s % (i + 1)) else none
theorem pk_zero (s : Nat) : pk s 0 = none := rfl
theorem pk_lt {s i : Nat} (hi : 0 < i) (h : s % (i + 1) < i) : pk s i = some (s % (i + 1)) := by
  unfold pk
  rw [if_neg (by omega), if_pos h]
theorem pk_ge {s i : Nat} (h : ¬ s % (i + 1) < i) : pk s i = none := by
  unfold pk
  rw [if_neg h]
  split <;> rfl
theorem pk_some {s i q : Nat} (h : pk s i = some q) : q < i := by
  unfold pk at h
  split at h
  · cases h
  · split at h
    · cases h; assumption
    · cases h

/-- how many of l are taken in round i, where b are left -/
def tk (i l b : Nat) : Nat := if i = 0 then 0 else min l b
/-- what is left of the budget at round i -/
def bud (o : Nat → Nd) : Nat → Nat
  | 0 => 10
  | i + 1 => bud o i - tk i (o i).l (bud o i)

theorem bud_le (o : Nat → Nd) : ∀ i, bud o i ≤ 10
  | 0 => Nat.le_refl _
  | i + 1 => by have := bud_le o i; simp only [bud]; omega

/-- the graph of the data -/
def gr (o : Nat → Nd) : G where
  sup := fun i => pk (o i).sp i
  cmp := fun i => pk (o i).cp i
  m := fun i => tk i (o i).l (bud o i)
  f := fun i j => (o i).I j % i
  arr := fun i => (o i).arr
  isf := fun i => (o i).isf

theorem gr_m_le (o : Nat → Nd) (i : Nat) : (gr o).m i ≤ 10 := by
  have := bud_le o i
  show tk i (o i).l (bud o i) ≤ 10
  unfold tk
  split <;> omega

theorem gr_is (o : Nat → Nd) (n : Nat) : IsG (gr o) n := fun i _ => ⟨fun s h => pk_some h, fun s h => pk_some h, fun j hj => by
  have : i ≠ 0 := by
    intro e
    subst e
    have h2 : tk 0 (o 0).l (bud o 0) = 0 := rfl
    have hj' : j < tk 0 (o 0).l (bud o 0) := hj
    omega
  exact Nat.mod_lt _ (by omega)⟩

/-- an edge as the program's number -/
def en : Option Nat → Int
  | none => -1
  | some s => s

/-- the given nodes in memory -/
def IsNds (w : World) (b off n : Nat) (o : Nat → Nd) : Prop :=
  b < w.heap.size ∧ ∀ i, i < n →
    w.cell? ⟨b, off + i * 5, none⟩ = some (.bool (o i).arr) ∧ w.cell? ⟨b, off + i * 5 + 1, none⟩ = some (.bool (o i).isf) ∧ w.cell? ⟨b, off + i * 5 + 2, none⟩ = some (.int .u8 (o i).sp) ∧
    w.cell? ⟨b, off + i * 5 + 3, none⟩ = some (.int .u8 (o i).cp) ∧ w.cell? ⟨b, off + i * 5 + 4, none⟩ = some (.slice (o i).A (o i).l (o i).c) ∧ (o i).sp < 256 ∧ (o i).cp < 256 ∧ (o i).l ≤ (o i).c ∧ (o i).c ≤ maxLen ∧
    (0 < (o i).l → ∃ ib io, (o i).A = some ⟨ib, io, none⟩ ∧ ib < w.heap.size ∧ ∀ j, j < (o i).l → w.cell? ⟨ib, io + j, none⟩ = some (.int .u8 ((o i).I j)) ∧ (o i).I j < 256)

theorem IsNds.below {w w' : World} {b off n : Nat} {o : Nat → Nd} (h : IsNds w b off n o) (hb : Below w.heap.size w w') : IsNds w' b off n o := by
  obtain ⟨hlt, h⟩ := h
  refine ⟨Nat.lt_of_lt_of_le hlt hb.size, fun i hi => ?_⟩
  obtain ⟨h0, h1, h2, h3, h4, h5, h6, h7, h8, h9⟩ := h i hi
  refine ⟨(hb.cell hlt).trans h0, (hb.cell hlt).trans h1, (hb.cell hlt).trans h2, (hb.cell hlt).trans h3, (hb.cell hlt).trans h4, h5, h6, h7, h8, fun hl => ?_⟩
  obtain ⟨ib, io, e, hi2, hc⟩ := h9 hl
  exact ⟨ib, io, e, Nat.lt_of_lt_of_le hi2 hb.size, fun j hj => ⟨(hb.cell hi2).trans (hc j hj).1, (hc j hj).2⟩⟩

/-- THE STATE: all below N as at the start; the blocks from N + 6 to S as in wr; the six rows N .. N + 5 -/
structure St (w : World) (N n : Nat) (wr : World) (S : Nat) (F0 F1 F2 F3 F4 F5 : Nat → Value) (wx : World) : Prop where
  bel : Below N w wx
  nsz : N + 6 ≤ S
  sz : S ≤ wx.heap.size
  stay : ∀ k, N + 6 ≤ k → k < S → wx.heap[k]? = wr.heap[k]?
  r0 : wx.rowIs N 3 n F0
  r1 : wx.rowIs (N + 1) 3 n F1
  r2 : wx.rowIs (N + 2) 23 n F2
  r3 : wx.rowIs (N + 3) 4 n F3
  r4 : wx.rowIs (N + 4) 4 n F4
  r5 : wx.rowIs (N + 5) 31 n F5

namespace St
variable {w : World} {N n : Nat} {wr : World} {S : Nat} {F0 F1 F2 F3 F4 F5 : Nat → Value} {wx : World}

theorem size_set (w : World) (a : Addr) (v : Value) : (w.setCell a v).heap.size = w.heap.size := by simp [World.setCell]

theorem set0 (h : St w N n wr S F0 F1 F2 F3 F4 F5 wx) (i : Nat) (v : Value) : St w N n wr S (fun j => if j = i then v else F0 j) F1 F2 F3 F4 F5 (wx.setCell ⟨N, i, none⟩ v) :=
  ⟨h.bel.setCell (Nat.le_refl _) _, h.nsz, by rw [size_set]; exact h.sz, fun k hk hs => (Below.heap_setCell _ _ _ _ (by simp only; omega)).trans (h.stay k hk hs), h.r0.set i v, h.r1.setOther (by simp) v, h.r2.setOther (by simp) v, h.r3.setOther (by simp) v, h.r4.setOther (by simp) v, h.r5.setOther (by simp) v⟩
theorem set1 (h : St w N n wr S F0 F1 F2 F3 F4 F5 wx) (i : Nat) (v : Value) : St w N n wr S F0 (fun j => if j = i then v else F1 j) F2 F3 F4 F5 (wx.setCell ⟨N + 1, i, none⟩ v) :=
  ⟨h.bel.setCell (by simp) _, h.nsz, by rw [size_set]; exact h.sz, fun k hk hs => (Below.heap_setCell _ _ _ _ (by simp only; omega)).trans (h.stay k hk hs), h.r0.setOther (by simp) v, h.r1.set i v, h.r2.setOther (by simp) v, h.r3.setOther (by simp) v, h.r4.setOther (by simp) v, h.r5.setOther (by simp) v⟩
theorem set2 (h : St w N n wr S F0 F1 F2 F3 F4 F5 wx) (i : Nat) (v : Value) : St w N n wr S F0 F1 (fun j => if j = i then v else F2 j) F3 F4 F5 (wx.setCell ⟨N + 2, i, none⟩ v) :=
  ⟨h.bel.setCell (by simp) _, h.nsz, by rw [size_set]; exact h.sz, fun k hk hs => (Below.heap_setCell _ _ _ _ (by simp only; omega)).trans (h.stay k hk hs), h.r0.setOther (by simp) v, h.r1.setOther (by simp) v, h.r2.set i v, h.r3.setOther (by simp) v, h.r4.setOther (by simp) v, h.r5.setOther (by simp) v⟩
theorem set3 (h : St w N n wr S F0 F1 F2 F3 F4 F5 wx) (i : Nat) (v : Value) : St w N n wr S F0 F1 F2 (fun j => if j = i then v else F3 j) F4 F5 (wx.setCell ⟨N + 3, i, none⟩ v) :=
  ⟨h.bel.setCell (by simp) _, h.nsz, by rw [size_set]; exact h.sz, fun k hk hs => (Below.heap_setCell _ _ _ _ (by simp only; omega)).trans (h.stay k hk hs), h.r0.setOther (by simp) v, h.r1.setOther (by simp) v, h.r2.setOther (by simp) v, h.r3.set i v, h.r4.setOther (by simp) v, h.r5.setOther (by simp) v⟩
theorem set4 (h : St w N n wr S F0 F1 F2 F3 F4 F5 wx) (i : Nat) (v : Value) : St w N n wr S F0 F1 F2 F3 (fun j => if j = i then v else F4 j) F5 (wx.setCell ⟨N + 4, i, none⟩ v) :=
  ⟨h.bel.setCell (by simp) _, h.nsz, by rw [size_set]; exact h.sz, fun k hk hs => (Below.heap_setCell _ _ _ _ (by simp only; omega)).trans (h.stay k hk hs), h.r0.setOther (by simp) v, h.r1.setOther (by simp) v, h.r2.setOther (by simp) v, h.r3.setOther (by simp) v, h.r4.set i v, h.r5.setOther (by simp) v⟩
theorem set5 (h : St w N n wr S F0 F1 F2 F3 F4 F5 wx) (i : Nat) (v : Value) : St w N n wr S F0 F1 F2 F3 F4 (fun j => if j = i then v else F5 j) (wx.setCell ⟨N + 5, i, none⟩ v) :=
  ⟨h.bel.setCell (by simp) _, h.nsz, by rw [size_set]; exact h.sz, fun k hk hs => (Below.heap_setCell _ _ _ _ (by simp only; omega)).trans (h.stay k hk hs), h.r0.setOther (by simp) v, h.r1.setOther (by simp) v, h.r2.setOther (by simp) v, h.r3.setOther (by simp) v, h.r4.setOther (by simp) v, h.r5.set i v⟩

/-- any step that keeps all below S -/
theorem keep (h : St w N n wr S F0 F1 F2 F3 F4 F5 wx) {wy : World} (hb : Below S wx wy) : St w N n wr S F0 F1 F2 F3 F4 F5 wy := by
  have hs := h.nsz
  exact ⟨h.bel.trans (hb.mono (by omega)), h.nsz, Nat.le_trans h.sz hb.size, fun k hk hs => (hb.block k hs).trans (h.stay k hk hs), h.r0.of_block (hb.block _ (by omega)), h.r1.of_block (hb.block _ (by omega)), h.r2.of_block (hb.block _ (by omega)), h.r3.of_block (hb.block _ (by omega)), h.r4.of_block (hb.block _ (by omega)), h.r5.of_block (hb.block _ (by omega))⟩
theorem alloc (h : St w N n wr S F0 F1 F2 F3 F4 F5 wx) (o : Obj) : St w N n wr S F0 F1 F2 F3 F4 F5 (wx.alloc o) := h.keep ((Below.refl _ _).alloc h.sz o)
theorem setNew (h : St w N n wr S F0 F1 F2 F3 F4 F5 wx) {a : Addr} (ha : S ≤ a.block) (v : Value) : St w N n wr S F0 F1 F2 F3 F4 F5 (wx.setCell a v) := h.keep ((Below.refl _ _).setCell ha v)
theorem drew (h : St w N n wr S F0 F1 F2 F3 F4 F5 wx) : St w N n wr S F0 F1 F2 F3 F4 F5 wx.drew := h.keep (Below.refl _ _).drew
/-- a new mark: all that is there now stays -/
theorem mark (h : St w N n wr S F0 F1 F2 F3 F4 F5 wx) : St w N n wx wx.heap.size F0 F1 F2 F3 F4 F5 wx := ⟨h.bel, Nat.le_trans h.nsz h.sz, Nat.le_refl _, fun _ _ _ => rfl, h.r0, h.r1, h.r2, h.r3, h.r4, h.r5⟩
theorem congr {G0 G1 G2 G3 G4 G5 : Nat → Value} (h : St w N n wr S F0 F1 F2 F3 F4 F5 wx) (e0 : ∀ i, i < n → F0 i = G0 i) (e1 : ∀ i, i < n → F1 i = G1 i) (e2 : ∀ i, i < n → F2 i = G2 i) (e3 : ∀ i, i < n → F3 i = G3 i) (e4 : ∀ i, i < n → F4 i = G4 i) (e5 : ∀ i, i < n → F5 i = G5 i) :
    St w N n wr S G0 G1 G2 G3 G4 G5 wx := ⟨h.bel, h.nsz, h.sz, h.stay, h.r0.congr e0, h.r1.congr e1, h.r2.congr e2, h.r3.congr e3, h.r4.congr e4, h.r5.congr e5⟩
end St

/-- a list of edges that the program keeps as a slice of numbers, in a block from B to S -/
def Ints (w : World) (B S : Nat) (v : Value) (m : Nat) (f : Nat → Nat) : Prop :=
  ∃ (A : Option Addr) (c : Nat), v = .slice A m c ∧ (0 < m → ∃ ib, A = some ⟨ib, 0, none⟩ ∧ B ≤ ib ∧ ib < S ∧ ∀ q, q < m → w.cell? ⟨ib, q, none⟩ = some (.int .i64 (f q)))

theorem Ints.keep {w w' : World} {B S S' : Nat} {v : Value} {m : Nat} {f : Nat → Nat} (h : Ints w B S v m f) (hS : S ≤ S') (hk : ∀ k, B ≤ k → k < S → w'.heap[k]? = w.heap[k]?) : Ints w' B S' v m f := by
  obtain ⟨A, c, e, h⟩ := h
  refine ⟨A, c, e, fun hm => ?_⟩
  obtain ⟨ib, e1, h1, h2, h3⟩ := h hm
  exact ⟨ib, e1, h1, by omega, fun q hq => (World.cell?_of_block (w := w) (a := ⟨ib, q, none⟩) (hk ib h1 h2)).trans (h3 q hq)⟩

/-- a node with all its memory in blocks from B to S -/
def ClsIn (w : World) (B S : Nat) (g : G) (CB : Nat → Nat) (i : Nat) : Prop :=
  ∃ (F : Nat → Value) (A : Option Addr) (c : Nat), B ≤ CB i ∧ CB i < S ∧ w.rowIs (CB i) 43 20 F ∧ F 0 = .string (nm (g.arr i)) ∧ F 3 = .int .u16 (fl (g.isf i)) ∧ F 4 = ptr CB (g.sup i) ∧ F 5 = .slice A (g.m i) c ∧ F 8 = ptr CB (g.cmp i) ∧
    (0 < g.m i → ∃ ib, A = some ⟨ib, 0, none⟩ ∧ B ≤ ib ∧ ib < S ∧ ∀ j, j < g.m i → w.cell? ⟨ib, j, none⟩ = some (ptr CB (some (g.f i j))))

theorem ClsIn.cls {w : World} {B S : Nat} {g : G} {CB : Nat → Nat} {i : Nat} (h : ClsIn w B S g CB i) : Cls w g CB i := by
  obtain ⟨F, A, c, _, _, h1, h2, h3, h4, h5, h6, h7⟩ := h
  refine ⟨F, A, c, h1, h2, h3, h4, h5, h6, fun hm => ?_⟩
  obtain ⟨ib, e, _, _, h8⟩ := h7 hm
  exact ⟨ib, e, h8⟩

theorem ClsIn.keep {w w' : World} {B S S' : Nat} {g : G} {CB CB' : Nat → Nat} {i : Nat} (h : ClsIn w B S g CB i) (hS : S ≤ S') (hk : ∀ k, B ≤ k → k < S → w'.heap[k]? = w.heap[k]?) (hg : IsG g (i + 1)) (hC : ∀ j, j ≤ i → CB' j = CB j) : ClsIn w' B S' g CB' i := by
  obtain ⟨F, A, c, hb, hs, h1, h2, h3, h4, h5, h6, h7⟩ := h
  obtain ⟨g1, g2, g3⟩ := hg i (by omega)
  refine ⟨F, A, c, by rw [hC i (by omega)]; exact hb, by rw [hC i (by omega)]; omega, ?_, h2, h3, ?_, h5, ?_, fun hm => ?_⟩
  · rw [hC i (by omega)]; exact h1.of_block (hk _ hb hs)
  · rw [h4]
    cases e : g.sup i with
    | none => rfl
    | some s => simp only [ptr]; rw [hC s (by have := g1 s e; omega)]
  · rw [h6]
    cases e : g.cmp i with
    | none => rfl
    | some s => simp only [ptr]; rw [hC s (by have := g2 s e; omega)]
  · obtain ⟨ib, e, h8, h9, h10⟩ := h7 hm
    refine ⟨ib, e, h8, by omega, fun j hj => ?_⟩
    rw [World.cell?_of_block (w := w) (a := ⟨ib, j, none⟩) (hk ib h8 h9), h10 j hj]
    simp only [ptr]
    rw [hC _ (by have := g3 j hj; omega)]

/-- G up to i, z from there on -/
def upto (i : Nat) (G : Nat → Value) (z : Value) (j : Nat) : Value := if j < i then G j else z
theorem upto_succ (i : Nat) (G : Nat → Value) (z : Value) (j : Nat) : (if j = i then G i else upto i G z j) = upto (i + 1) G z j := by
  unfold upto
  by_cases e : j = i
  · subst e; rw [if_pos rfl, if_pos (by omega)]
  · rw [if_neg e]
    by_cases h : j < i
    · rw [if_pos h, if_pos (by omega)]
    · rw [if_neg h, if_neg (by omega)]
theorem upto_lt {i j : Nat} (G : Nat → Value) (z : Value) (h : j < i) : upto i G z j = G j := if_pos h
theorem upto_ge {i j : Nat} (G : Nat → Value) (z : Value) (h : i ≤ j) : upto i G z j = z := if_neg (by omega)
theorem upto_zero (G : Nat → Value) (z : Value) (j : Nat) : upto 0 G z j = z := if_neg (by omega)

/-- WHAT HOLDS AHEAD OF ROUND i: i nodes are built -/
def Upto (w : World) (N n : Nat) (o : Nat → Nd) (i : Nat) (wr : World) : Prop :=
  ∃ (IV : Nat → Value) (CB : Nat → Nat),
    St w N n wr wr.heap.size (upto i (fun j => .int .i64 (en ((gr o).sup j))) (.int .i64 0)) (upto i (fun j => .int .i64 (en ((gr o).cmp j))) (.int .i64 0)) (upto i IV (.slice none 0 0)) (upto i (fun j => .bool (o j).arr) (.bool false)) (upto i (fun j => .bool (o j).isf) (.bool false)) (upto i (fun j => .pointer (some ⟨CB j, 0, none⟩)) (.pointer none)) wr ∧
    (∀ j, j < i → Ints wr (N + 6) wr.heap.size (IV j) ((gr o).m j) ((gr o).f j)) ∧ (∀ j, j < i → ClsIn wr (N + 6) wr.heap.size (gr o) CB j) ∧ (∀ j k, j < i → k < i → CB j = CB k → j = k)

theorem upto_start (w : World) (N n : Nat) (o : Nat → Nd) (hN : w.heap.size = N) :
    Upto w N n o 0 ((((((w.alloc (Obj.cells (madeCells #[Value.int IntKind.i64 0] n) 3)).alloc (Obj.cells (madeCells #[Value.int IntKind.i64 0] n) 3)).alloc (Obj.cells (madeCells #[Value.slice none 0 0] n) 23)).alloc
              (Obj.cells (madeCells #[Value.bool false] n) 4)).alloc (Obj.cells (madeCells #[Value.bool false] n) 4)).alloc (Obj.cells (madeCells #[Value.pointer none] n) 31)) := by
  subst hN
  have hs : ∀ (w : World) (o : Obj), (w.alloc o).heap.size = w.heap.size + 1 := fun w o => by simp
  refine ⟨fun _ => undef, fun _ => 0, ?_, fun j h => by omega, fun j h => by omega, fun j k h => by omega⟩
  have z0 := World.rowIs_made w (.int .i64 0) n 3
  generalize hw1 : w.alloc (Obj.cells (madeCells #[Value.int IntKind.i64 0] n) 3) = w1 at z0 ⊢
  have z1 := World.rowIs_made w1 (.int .i64 0) n 3
  generalize hw2 : w1.alloc (Obj.cells (madeCells #[Value.int IntKind.i64 0] n) 3) = w2 at z1 ⊢
  have z2 := World.rowIs_made w2 (.slice none 0 0) n 23
  generalize hw3 : w2.alloc (Obj.cells (madeCells #[Value.slice none 0 0] n) 23) = w3 at z2 ⊢
  have z3 := World.rowIs_made w3 (.bool false) n 4
  generalize hw4 : w3.alloc (Obj.cells (madeCells #[Value.bool false] n) 4) = w4 at z3 ⊢
  have z4 := World.rowIs_made w4 (.bool false) n 4
  generalize hw5 : w4.alloc (Obj.cells (madeCells #[Value.bool false] n) 4) = w5 at z4 ⊢
  have z5 := World.rowIs_made w5 (.pointer none) n 31
  generalize hw6 : w5.alloc (Obj.cells (madeCells #[Value.pointer none] n) 31) = w6 at z5 ⊢
  have s1 : w1.heap.size = w.heap.size + 1 := by rw [← hw1, hs]
  have s2 : w2.heap.size = w.heap.size + 2 := by rw [← hw2, hs, s1]
  have s3 : w3.heap.size = w.heap.size + 3 := by rw [← hw3, hs, s2]
  have s4 : w4.heap.size = w.heap.size + 4 := by rw [← hw4, hs, s3]
  have s5 : w5.heap.size = w.heap.size + 5 := by rw [← hw5, hs, s4]
  have s6 : w6.heap.size = w.heap.size + 6 := by rw [← hw6, hs, s5]
  have b1 : Below w.heap.size w w1 := hw1 ▸ (Below.refl _ _).alloc (Nat.le_refl _) _
  have b2 : Below w1.heap.size w1 w2 := hw2 ▸ (Below.refl _ _).alloc (Nat.le_refl _) _
  have b3 : Below w2.heap.size w2 w3 := hw3 ▸ (Below.refl _ _).alloc (Nat.le_refl _) _
  have b4 : Below w3.heap.size w3 w4 := hw4 ▸ (Below.refl _ _).alloc (Nat.le_refl _) _
  have b5 : Below w4.heap.size w4 w5 := hw5 ▸ (Below.refl _ _).alloc (Nat.le_refl _) _
  have b6 : Below w5.heap.size w5 w6 := hw6 ▸ (Below.refl _ _).alloc (Nat.le_refl _) _
  have c5 : Below w4.heap.size w4 w6 := b5.trans (b6.mono (by omega))
  have c4 : Below w3.heap.size w3 w6 := b4.trans (c5.mono (by omega))
  have c3 : Below w2.heap.size w2 w6 := b3.trans (c4.mono (by omega))
  have c2 : Below w1.heap.size w1 w6 := b2.trans (c3.mono (by omega))
  have c1 : Below w.heap.size w w6 := b1.trans (c2.mono (by omega))
  rw [s1] at z1
  rw [s2] at z2
  rw [s3] at z3
  rw [s4] at z4
  rw [s5] at z5
  refine ⟨c1, by omega, Nat.le_refl _, fun _ _ _ => rfl, ?_, ?_, ?_, ?_, ?_, ?_⟩
  · exact (z0.of_block (c2.block _ (by omega))).congr fun j _ => (upto_zero _ _ _).symm
  · exact (z1.of_block (c3.block _ (by omega))).congr fun j _ => (upto_zero _ _ _).symm
  · exact (z2.of_block (c4.block _ (by omega))).congr fun j _ => (upto_zero _ _ _).symm
  · exact (z3.of_block (c5.block _ (by omega))).congr fun j _ => (upto_zero _ _ _).symm
  · exact (z4.of_block (b6.block _ (by omega))).congr fun j _ => (upto_zero _ _ _).symm
  · exact z5.congr fun j _ => (upto_zero _ _ _).symm

/-- the cells of a node's copy -/
def ndF (d : Nd) : Nat → Value
  | 0 => .bool d.arr
  | 1 => .bool d.isf
  | 2 => .int .u8 d.sp
  | 3 => .int .u8 d.cp
  | _ => .slice d.A d.l d.c

/-- behind the round's head: the copy of the node is made, both edges are -1 -/
theorem round_head {w : World} {N n : Nat} {wr : World} {F0 F1 F2 F3 F4 F5 : Nat → Value} (h : St w N n wr wr.heap.size F0 F1 F2 F3 F4 F5 wr) (i : Nat) (d : Nd) {W2 : World}
    (e : W2 = ((wr.setCell ⟨N, i, none⟩ (.int .i64 (-1))).setCell ⟨N + 1, i, none⟩ (.int .i64 (-1))).alloc (Obj.cells #[.bool d.arr, .bool d.isf, .int .u8 d.sp, .int .u8 d.cp, .slice d.A d.l d.c] 29)) :
    W2.heap.size = wr.heap.size + 1 ∧ St w N n W2 (wr.heap.size + 1) (fun j => if j = i then .int .i64 (-1) else F0 j) (fun j => if j = i then .int .i64 (-1) else F1 j) F2 F3 F4 F5 W2 ∧ W2.rowIs wr.heap.size 29 5 (ndF d) ∧ ∀ k, N + 6 ≤ k → k < wr.heap.size → W2.heap[k]? = wr.heap[k]? := by
  have h2 := ((h.set0 i (.int .i64 (-1))).set1 i (.int .i64 (-1))).alloc (Obj.cells #[.bool d.arr, .bool d.isf, .int .u8 d.sp, .int .u8 d.cp, .slice d.A d.l d.c] 29)
  have hr := World.rowIs_alloc ((wr.setCell ⟨N, i, none⟩ (.int .i64 (-1))).setCell ⟨N + 1, i, none⟩ (.int .i64 (-1))) #[.bool d.arr, .bool d.isf, .int .u8 d.sp, .int .u8 d.cp, .slice d.A d.l d.c] 29 (ndF d) (fun k hk => by
    have hk' : k < 5 := hk
    rcases (show k = 0 ∨ k = 1 ∨ k = 2 ∨ k = 3 ∨ k = 4 by omega) with rfl | rfl | rfl | rfl | rfl <;> rfl)
  rw [← e] at h2 hr
  have hs : W2.heap.size = wr.heap.size + 1 := by rw [e]; simp [World.setCell]
  rw [St.size_set, St.size_set] at hr
  have hm := h2.mark
  rw [hs] at hm
  exact ⟨hs, hm, hr, h2.stay⟩

theorem owns_form {w : World} {B : Nat} {iv : Value} {m : Nat} {xs : List Value} (h : w.ownsRow B 3 1 iv m xs) : ∃ A c, iv = .slice A m c := by
  rcases h.2 with ⟨rfl, rfl⟩ | ⟨g, cap, cur, rfl, hb, _⟩
  · exact ⟨_, _, rfl⟩
  · exact ⟨_, _, rfl⟩

theorem ints_of_owns {w : World} {B : Nat} {iv : Value} {m : Nat} {f : Nat → Nat} (h : w.ownsRow B 3 1 iv m ((List.range m).map (fun j => Value.int .i64 (f j)))) : Ints w B w.heap.size iv m f := by
  rcases h.2 with ⟨rfl, rfl⟩ | ⟨g, cap, cur, rfl, hb, hg, _⟩
  · exact ⟨none, 0, rfl, fun h => by omega⟩
  · have hlt : g < w.heap.size := by
      rcases Nat.lt_or_ge g w.heap.size with hlt | hge
      · exact hlt
      · rw [Array.getElem?_eq_none hge] at hg; cases hg
    refine ⟨some ⟨g, 0, none⟩, cap, rfl, fun hm => ⟨g, rfl, hb, hlt, fun q hq => ?_⟩⟩
    rw [h.cellAt q (by omega)]
    simp [hq]

/-- a step that appends to a row from B on keeps all below B -/
theorem grown_below {w w' : World} {B : Nat} {z : Value} {v : Value} {m : Nat} {xs : List Value} (hB : B ≤ w.heap.size) (ho : w.ownsRow B 3 1 v m xs) (hg : (w.drew.alloc (.cells #[z] 3)).grownBy w' v.ownBlock) : Below B w w' := by
  have h1 : Below B w (w.drew.alloc (.cells #[z] 3)) := Below.alloc (Below.drew (Below.refl B w)) hB _
  refine h1.grown hg (by show B ≤ (w.drew.heap.push _).size; simp; omega) (fun k hk => (ho.lt k hk).1)

theorem bud_succ (o : Nat → Nd) (i : Nat) : bud o (i + 1) = bud o i - (gr o).m i := rfl

theorem upto_upd (i : Nat) (G : Nat → Value) (v z : Value) (j : Nat) : (if j = i then v else upto i G z j) = upto (i + 1) (fun k => if k = i then v else G k) z j := by
  unfold upto
  by_cases e : j = i
  · subst e; rw [if_pos rfl, if_pos (by omega)]; dsimp only; rw [if_pos rfl]
  · rw [if_neg e]
    by_cases h : j < i
    · rw [if_pos h, if_pos (by omega)]; dsimp only; rw [if_neg e]
    · rw [if_neg h, if_neg (by omega)]

/-- the row that holds the edges' slices, the classes' pointers: one more -/
theorem round_end {w : World} {N n : Nat} {o : Nat → Nd} {i : Nat} {IV : Nat → Value} {CB : Nat → Nat} {iv : Value} {w7 : World} {C : Nat} {wx : World} {F : Nat → Value} {A : Option Addr} {c : Nat}
    (hS : St w N n w7 C (fun j => if j = i then .int .i64 (en ((gr o).sup i)) else upto i (fun j => .int .i64 (en ((gr o).sup j))) (.int .i64 0) j) (fun j => if j = i then .int .i64 (en ((gr o).cmp i)) else upto i (fun j => .int .i64 (en ((gr o).cmp j))) (.int .i64 0) j) (fun j => if j = i then iv else upto i IV (.slice none 0 0) j)
      (fun j => if j = i then .bool (o i).arr else upto i (fun j => .bool (o j).arr) (.bool false) j) (fun j => if j = i then .bool (o i).isf else upto i (fun j => .bool (o j).isf) (.bool false) j) (upto i (fun j => .pointer (some ⟨CB j, 0, none⟩)) (.pointer none)) wx)
    (hIv : ∀ j, j < i → Ints w7 (N + 6) C (IV j) ((gr o).m j) ((gr o).f j)) (hiv : Ints w7 (N + 6) C iv ((gr o).m i) ((gr o).f i)) (hCl : ∀ j, j < i → ClsIn w7 (N + 6) C (gr o) CB j) (hInj : ∀ j k, j < i → k < i → CB j = CB k → j = k)
    (hrow : wx.rowIs C 43 20 F) (f0 : F 0 = .string (nm (o i).arr)) (f3 : F 3 = .int .u16 (fl (o i).isf)) (f4 : F 4 = ptr CB ((gr o).sup i)) (f5 : F 5 = .slice A ((gr o).m i) c) (f8 : F 8 = ptr CB ((gr o).cmp i))
    (hf : 0 < (gr o).m i → ∃ ib, A = some ⟨ib, 0, none⟩ ∧ C < ib ∧ ib < wx.heap.size ∧ ∀ j, j < (gr o).m i → wx.cell? ⟨ib, j, none⟩ = some (ptr CB (some ((gr o).f i j)))) :
    Upto w N n o (i + 1) (wx.setCell ⟨N + 5, i, none⟩ (.pointer (some ⟨C, 0, none⟩))) := by
  have hNC := hS.nsz
  have hszx := hS.sz
  have hg := gr_is o (i + 1)
  obtain ⟨g1, g2, g3⟩ := hg i (by omega)
  have h5 := hS.set5 i (.pointer (some ⟨C, 0, none⟩))
  have hC : C < wx.heap.size := hrow.lt
  have hsz5 : (wx.setCell ⟨N + 5, i, none⟩ (.pointer (some ⟨C, 0, none⟩))).heap.size = wx.heap.size := St.size_set _ _ _
  have far : ∀ b k, N + 5 < b → (wx.setCell ⟨N + 5, i, none⟩ (.pointer (some ⟨C, 0, none⟩))).cell? ⟨b, k, none⟩ = wx.cell? ⟨b, k, none⟩ := fun b k hb => World.cell?_of_block (w := wx) (Below.heap_setCell _ _ _ _ (by simp only; omega))
  have hstay : ∀ k, N + 6 ≤ k → k < C → (wx.setCell ⟨N + 5, i, none⟩ (.pointer (some ⟨C, 0, none⟩))).heap[k]? = w7.heap[k]? := h5.stay
  have hrow5 : (wx.setCell ⟨N + 5, i, none⟩ (.pointer (some ⟨C, 0, none⟩))).rowIs C 43 20 F := hrow.setOther (by simp only; omega) _
  have hfar : 0 < (gr o).m i → ∃ ib, A = some ⟨ib, 0, none⟩ ∧ C < ib ∧ ib < wx.heap.size ∧ ∀ j, j < (gr o).m i → (wx.setCell ⟨N + 5, i, none⟩ (.pointer (some ⟨C, 0, none⟩))).cell? ⟨ib, j, none⟩ = some (ptr CB (some ((gr o).f i j))) := fun hm => by
    obtain ⟨ib, e, h1, h2, h3⟩ := hf hm
    exact ⟨ib, e, h1, h2, fun j hj => (far ib j (by omega)).trans (h3 j hj)⟩
  generalize wx.setCell ⟨N + 5, i, none⟩ (.pointer (some ⟨C, 0, none⟩)) = w9 at *
  refine ⟨fun j => if j = i then iv else IV j, fun j => if j = i then C else CB j, h5.mark.congr (fun j _ => upto_succ i (fun j => .int .i64 (en ((gr o).sup j))) _ j) (fun j _ => upto_succ i (fun j => .int .i64 (en ((gr o).cmp j))) _ j) (fun j _ => upto_upd i IV iv _ j) (fun j _ => upto_succ i (fun j => .bool (o j).arr) _ j) (fun j _ => upto_succ i (fun j => .bool (o j).isf) _ j) (fun j _ => ?_), fun j hj => ?_, fun j hj => ?_, fun j k hj hk he => ?_⟩
  · rw [upto_upd i (fun j => .pointer (some ⟨CB j, 0, none⟩))]
    congr 1
    funext k
    dsimp only
    by_cases e : k = i
    · rw [if_pos e, if_pos e]
    · rw [if_neg e, if_neg e]
  · by_cases e : j = i
    · subst e
      dsimp only
      rw [if_pos rfl]
      exact hiv.keep (by omega) hstay
    · dsimp only
      rw [if_neg e]
      exact (hIv j (by omega)).keep (by omega) hstay
  · have hptr : ∀ s : Option Nat, (∀ q, s = some q → q < i) → ptr (fun j => if j = i then C else CB j) s = ptr CB s := fun s hs => by
      cases s with
      | none => rfl
      | some q =>
        simp only [ptr]
        rw [if_neg (show ¬ q = i by have := hs q rfl; omega)]
    by_cases e : j = i
    · subst e
      refine ⟨F, A, c, ?_, ?_, ?_, f0, f3, ?_, f5, ?_, fun hm => ?_⟩
      · dsimp only; rw [if_pos rfl]; omega
      · dsimp only; rw [if_pos rfl]; omega
      · dsimp only; rw [if_pos rfl]; exact hrow5
      · rw [f4, hptr _ g1]
      · rw [f8, hptr _ g2]
      · obtain ⟨ib, e, h1, h2, h3⟩ := hfar hm
        refine ⟨ib, e, by omega, by omega, fun k hk => ?_⟩
        rw [h3 k hk, hptr _ (fun q hq => by injection hq with hq; have := g3 k hk; omega)]
    · exact (hCl j (by omega)).keep (by omega) hstay (gr_is o _) (fun k hk => by rw [if_neg (show ¬ k = i by omega)])
  · dsimp only at he
    by_cases e1 : j = i
    · by_cases e2 : k = i
      · omega
      · rw [if_pos e1, if_neg e2] at he
        obtain ⟨_, _, _, _, hlt, _⟩ := hCl k (by omega)
        omega
    · by_cases e2 : k = i
      · rw [if_neg e1, if_pos e2] at he
        obtain ⟨_, _, _, _, hlt, _⟩ := hCl j (by omega)
        omega
      · rw [if_neg e1, if_neg e2] at he
        exact hInj j k (by omega) (by omega) he

/-- the middle of a round: all that is there now is marked -/
theorem mid_round {w : World} {N n : Nat} {W2 : World} {S : Nat} {F0 F1 F2 F3 F4 F5 : Nat → Value} {w5 : World} {iv : Value} {g : G} {i : Nat} {IV : Nat → Value} {CB : Nat → Nat} {d : Nd}
    (h : St w N n W2 (S + 1) F0 F1 F2 F3 F4 F5 w5) (hI : Ints w5 (S + 1) w5.heap.size iv (g.m i) (g.f i)) (hIv : ∀ j, j < i → Ints W2 (N + 6) (S + 1) (IV j) (g.m j) (g.f j)) (hCl : ∀ j, j < i → ClsIn W2 (N + 6) (S + 1) g CB j) (hg : IsG g i) (hr : W2.rowIs S 29 5 (ndF d)) (hNS : N + 6 ≤ S)
    (x y : Value) {w7 : World} (e : w7 = (w5.setCell ⟨N + 3, i, none⟩ x).setCell ⟨N + 4, i, none⟩ y) :
    St w N n w7 w7.heap.size F0 F1 F2 (fun j => if j = i then x else F3 j) (fun j => if j = i then y else F4 j) F5 w7 ∧ Ints w7 (N + 6) w7.heap.size iv (g.m i) (g.f i) ∧ (∀ j, j < i → Ints w7 (N + 6) w7.heap.size (IV j) (g.m j) (g.f j)) ∧ (∀ j, j < i → ClsIn w7 (N + 6) w7.heap.size g CB j) ∧ w7.rowIs S 29 5 (ndF d) := by
  have h7 := (h.set3 i x).set4 i y
  have hs : w7.heap.size = w5.heap.size := by rw [e, St.size_set, St.size_set]
  have hb : ∀ k, N + 6 ≤ k → w7.heap[k]? = w5.heap[k]? := fun k hk => by
    rw [e, Below.heap_setCell _ _ _ _ (by simp only; omega), Below.heap_setCell _ _ _ _ (by simp only; omega)]
  rw [← e] at h7
  have hsz := h7.sz
  refine ⟨h7.mark, ?_, fun j hj => (hIv j hj).keep hsz h7.stay, fun j hj => (hCl j hj).keep hsz h7.stay (fun k hk => hg k (by omega)) (fun _ _ => rfl), hr.of_block (h7.stay S hNS (by omega))⟩
  obtain ⟨A, c, e1, h1⟩ := hI
  refine ⟨A, c, e1, fun hm => ?_⟩
  obtain ⟨ib, e2, h2, h3, h4⟩ := h1 hm
  exact ⟨ib, e2, by omega, by omega, fun q hq => (World.cell?_of_block (w := w5) (a := ⟨ib, q, none⟩) (hb ib (by omega))).trans (h4 q hq)⟩

/-- the new row -/
theorem class_row {w7 w8 : World} {cs : Array Value} (e : w8 = w7.alloc (.cells cs 43)) (hs : cs.size = 20) : w8.rowIs w7.heap.size 43 20 (fun k => cs.getD k undef) := by
  subst e
  rw [← hs]
  exact World.rowIs_alloc w7 cs 43 _ fun k hk => by simp [hk]
theorem getD_of {cs : Array Value} {k : Nat} {v : Value} (h : cs[k]? = some v) : cs.getD k undef = v := by
  rw [Array.getD_eq_getD_getElem?, h]; rfl
end Go.Proofs.Ybulkeyzu
