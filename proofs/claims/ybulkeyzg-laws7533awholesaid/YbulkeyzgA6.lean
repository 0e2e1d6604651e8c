import Derived.Test.YbulkeyzgA5
namespace Go.Proofs.Ybulkeyzg
open Go.RowKit

/-! ### the input as plain data, and what the law's model makes of it -/
structure HD where
  t : Nat
  m : Nat
  k : Nat
  imp : Bool
structure RD where
  pg : Nat
  heap : Int
  sup : Bool
  nh : Nat
  h : Nat → HD
  nw : Nat
  q : Nat → Nat
structure Dat where
  np : Nat
  nt : Nat
  lr : Nat
  pr : Nat → Nat
  pf : Nat → Nat
  R : Nat → RD
structure Dat.Fine (D : Dat) : Prop where
  np : 0 < D.np
  nt : 0 < D.nt
  pr : ∀ p, D.pr p < 512
  pf : ∀ p, D.pf p < 64

def upd {α : Type} (f : Nat → α) (i : Nat) (v : α) : Nat → α := fun j => if j = i then v else f j
theorem upd_same {α : Type} (f : Nat → α) (i : Nat) (v : α) : upd f i v i = v := if_pos rfl
theorem upd_other {α : Type} (f : Nat → α) {i j : Nat} (v : α) (h : j ≠ i) : upd f i v j = f j := if_neg h

section
variable (D : Dat)
def Dat.p (i : Nat) : Nat := (D.R i).pg % D.np
def Dat.b (i : Nat) : Int := bitsOf (D.pr (D.p i)) (D.pf (D.p i))
def Dat.ht (i j : Nat) : Nat := ((D.R i).h j).t % D.nt
def Dat.hm (i j : Nat) : Nat := ((D.R i).h j).m % 3
def Dat.hk (i j : Nat) : Nat := ((D.R i).h j).k % 4
def Dat.qt (i j : Nat) : Nat := (D.R i).q j % D.nt
def Dat.key (i j : Nat) : Key := (D.p i, D.hm i j, kd (D.R i).sup (D.hk i j))
/-- one held lock -/
def Dat.hStep (i j : Nat) (σ : Nat → TS) : Nat → TS :=
  if ((D.R i).h j).imp = true then σ else upd σ (D.ht i j) (keepT (σ (D.ht i j)) (D.key i j) (D.R i).heap ((D.R i).nw == 0) (D.b i))
def Dat.hN (i : Nat) (σ : Nat → TS) : Nat → Nat → TS
  | 0 => σ
  | j + 1 => D.hStep i j (Dat.hN i σ j)
def Dat.wN (i : Nat) (σ : Nat → TS) : Nat → Nat → TS
  | 0 => σ
  | j + 1 => upd (Dat.wN i σ j) (D.qt i j) (newT (Dat.wN i σ j (D.qt i j)) (D.b i))
def Dat.out (i : Nat) (σ : Nat → TS) (j : Nat) : Int := newB (D.wN i σ j (D.qt i j)).f (D.b i)
def Dat.N (σ : Nat → TS) : Nat → Nat → TS
  | 0 => σ
  | i + 1 => D.wN i (D.hN i (Dat.N σ i) (D.R i).nh) (D.R i).nw
def Dat.off : Nat → Nat
  | 0 => 0
  | i + 1 => Dat.off i + (D.R i).nw
def Dat.sHeld : Nat → Nat
  | 0 => 0
  | i + 1 => Dat.sHeld i + (D.R i).nh
/-- behind the held locks of record i -/
def Dat.H (σ : Nat → TS) (i : Nat) : Nat → TS := D.hN i (D.N σ i) (D.R i).nh
def Dat.outs (σ : Nat → TS) : Nat → List Int
  | 0 => []
  | i + 1 => Dat.outs σ i ++ (List.range (D.R i).nw).map (D.out i (D.H σ i))

theorem Dat.outs_len (σ : Nat → TS) : ∀ i, (D.outs σ i).length = D.off i
  | 0 => rfl
  | i + 1 => by simp [Dat.outs, Dat.off, Dat.outs_len σ i]
theorem Dat.off_le {i k : Nat} (h : i ≤ k) : D.off i ≤ D.off k := by
  induction h with
  | refl => exact Nat.le_refl _
  | step _ ih => exact Nat.le_trans ih (by show _ ≤ D.off _ + _; omega)
theorem Dat.outs_mono (σ : Nat → TS) {i k q : Nat} (h : i ≤ k) (hq : q < D.off i) : (D.outs σ k)[q]? = (D.outs σ i)[q]? := by
  induction h with
  | refl => rfl
  | step h ih =>
    rw [← ih]
    show (D.outs σ _ ++ _)[q]? = _
    rw [List.getElem?_append_left (by rw [D.outs_len]; exact Nat.lt_of_lt_of_le hq (D.off_le h))]
theorem Dat.outs_at (σ : Nat → TS) {i k j : Nat} (h : i < k) (hj : j < (D.R i).nw) : (D.outs σ k)[D.off i + j]? = some (D.out i (D.H σ i) j) := by
  rw [D.outs_mono σ h (by show _ < D.off i + _; omega)]
  show (D.outs σ i ++ _)[_]? = _
  rw [List.getElem?_append_right (by rw [D.outs_len]; omega), D.outs_len]
  rw [show D.off i + j - D.off i = j by omega]
  simp [hj]
end

/-! ### the memory of the call's own, block by block, under labels -/
abbrev Tag := Nat × Nat × Nat
abbrev Lab := Nat → Option Tag

/-- what of the labels' groups K is as it was -/
def Same (lab : Lab) (K : Nat → Prop) (w w' : World) : Prop := ∀ b x, lab b = some x → K x.1 → w'.heap[b]? = w.heap[b]?

theorem Same.of_touch {lab : Lab} {S K : Nat → Prop} {w w' : World} (h : Touch S w w') (hl : ∀ b x, lab b = some x → b < w.heap.size) (hS : ∀ b x, lab b = some x → K x.1 → ¬ S b) : Same lab K w w' :=
  fun b x hb hk => h.block b (hl b x hb) (hS b x hb hk)
theorem Same.trans {lab : Lab} {K : Nat → Prop} {w w' w'' : World} (h : Same lab K w w') (k : Same lab K w' w'') : Same lab K w w'' := fun b x hb hk => (k b x hb hk).trans (h b x hb hk)

/-- a slice that the call grows: its block bears the label x -/
def Sl (lab : Lab) (w : World) (N : Nat) (x : Tag) (e size : Nat) (v : Value) (n : Nat) (xs : List Value) : Prop :=
  w.ownsRow N e size v n xs ∧ ∀ g, v.ownBlock = some g → lab g = some x

theorem Sl.same {lab : Lab} {K : Nat → Prop} {w w' : World} {N : Nat} {x : Tag} {e size : Nat} {v : Value} {n : Nat} {xs : List Value} (h : Sl lab w N x e size v n xs) (hs : Same lab K w w') (hk : K x.1) : Sl lab w' N x e size v n xs := by
  refine ⟨⟨h.1.1, ?_⟩, h.2⟩
  rcases h.1.2 with h1 | ⟨g, cap, cur, rfl, h2, h3, h4⟩
  · exact .inl h1
  · exact .inr ⟨g, cap, cur, rfl, h2, (hs g x (h.2 g rfl) hk).trans h3, h4⟩

/-- its cells, where each element is one cell -/
theorem Sl.cell {lab : Lab} {w : World} {N : Nat} {x : Tag} {e : Nat} {v : Value} {n : Nat} {xs : List Value} (h : Sl lab w N x e 1 v n xs) {j : Nat} (hj : j < n) :
    ∃ g cap u, v = .slice (some ⟨g, 0, none⟩) n cap ∧ xs[j]? = some u ∧ w.cell? ⟨g, j, none⟩ = some u ∧ w.frozen? ⟨g, j, none⟩ = false ∧ lab g = some x ∧ g < w.heap.size := by
  obtain ⟨⟨hl, h1⟩, h2⟩ := h
  rcases h1 with ⟨_, h0⟩ | ⟨g, cap, cur, rfl, h3, h4, h5, h6, h7, h8⟩
  · omega
  · have hx : xs[j]? = some (xs[j]'(by omega)) := List.getElem?_eq_getElem _
    refine ⟨g, cap, _, rfl, hx, ?_, ?_, h2 g rfl, ?_⟩
    · rw [cell_of_row w g j cur e (0, 0) h4, ← hx, ← h8, List.getElem?_take, if_pos (by omega), Array.getElem?_toList]
    · simp [World.frozen?, h4]
    · rcases Nat.lt_or_ge g w.heap.size with hlt | hge
      · exact hlt
      · rw [Array.getElem?_eq_none hge] at h4; cases h4
theorem Sl.slice {lab : Lab} {w : World} {N : Nat} {x : Tag} {e size : Nat} {v : Value} {n : Nat} {xs : List Value} (h : Sl lab w N x e size v n xs) : ∃ a c, v = .slice a n c := by
  rcases h.1.2 with ⟨h1, h2⟩ | ⟨g, cap, cur, h1, _⟩
  · subst h2; exact ⟨none, 0, h1⟩
  · exact ⟨_, _, h1⟩

def ptr (b : Nat) : Value := .pointer (some ⟨b, 0, none⟩)

structure HObj (w : World) (ha ta ra : Nat) (m k : Nat) (imp : Bool) : Prop where
  obj : ∃ f, w.rowIs ha 77 7 f ∧ f 0 = ptr ta ∧ f 1 = .int .u8 m ∧ f 2 = .int .u8 k ∧ f 3 = ptr ra ∧ f 5 = .bool imp
structure QObj (w : World) (qa ta : Nat) (bits : Int) : Prop where
  obj : ∃ f, w.rowIs qa 83 10 f ∧ f 0 = ptr ta ∧ f 6 = .int .i64 bits
theorem HObj.of_block {w w' : World} {ha ta ra m k : Nat} {imp : Bool} (h : HObj w ha ta ra m k imp) (e : w'.heap[ha]? = w.heap[ha]?) : HObj w' ha ta ra m k imp := by
  obtain ⟨f, h1, h2⟩ := h
  exact ⟨f, h1.of_block e, h2⟩
theorem QObj.of_block {w w' : World} {qa ta : Nat} {bits : Int} (h : QObj w qa ta bits) (e : w'.heap[qa]? = w.heap[qa]?) : QObj w' qa ta bits := by
  obtain ⟨f, h1, h2⟩ := h
  exact ⟨f, h1.of_block e, h2⟩
theorem QObj.lt {w : World} {qa ta : Nat} {bits : Int} (h : QObj w qa ta bits) : qa < w.heap.size := by
  obtain ⟨f, h1, h2⟩ := h
  exact h1.lt
theorem QObj.set {w : World} {qa ta : Nat} {bits : Int} (h : QObj w qa ta bits) (b : Int) : QObj (w.setCell ⟨qa, 6, none⟩ (.int .i64 b)) qa ta b := by
  obtain ⟨f, h1, h2, h3⟩ := h
  exact ⟨_, h1.set 6 _, by simpa using h2, by simp⟩

/-- where all lies -/
structure Adr where
  pa : Nat → Nat
  ta : Nat → Nat
  ma : Nat → Nat
  ra : Nat → Nat
  ha : Nat → Nat → Nat
  qa : Nat → Nat
  hv : Nat → Value
  wv : Nat → Value

/-- pages -/
def PagesAt (lab : Lab) (w : World) (D : Dat) (A : Adr) (n : Nat) : Prop := ∀ p, p < n → lab (A.pa p) = some (1, 2, p) ∧ PObj w (A.pa p) (D.pr p) (D.pf p)
/-- one record, n locks and m requests of it so far -/
structure RecAt (lab : Lab) (w : World) (N : Nat) (D : Dat) (A : Adr) (i n m : Nat) : Prop where
  tag : lab (A.ra i) = some (1, 3, i)
  obj : RObj w (A.ra i) (A.pa (D.p i)) (D.R i).heap (D.R i).sup (A.hv i) (A.wv i)
  held : Sl lab w N (1, 4, i) 75 1 (A.hv i) n ((List.range n).map fun j => ptr (A.ha i j))
  hobj : ∀ j, j < n → lab (A.ha i j) = some (1, 5, i) ∧ HObj w (A.ha i j) (A.ta (D.ht i j)) (A.ra i) (D.hm i j) (D.hk i j) ((D.R i).h j).imp
  wait : Sl lab w N (1, 6, i) 78 1 (A.wv i) m ((List.range m).map fun j => ptr (A.qa (D.off i + j)))
/-- the transactions -/
def TrxAt (lab : Lab) (w : World) (D : Dat) (A : Adr) (n : Nat) (σ : Nat → TS) : Prop :=
  ∀ t, t < n → lab (A.ta t) = some (2, 0, t) ∧ lab (A.ma t) = some (2, 1, t) ∧ TObj w A.pa (A.ta t) (A.ma t) (σ t) ∧ All (Ok D.np) (σ t).kv

theorem PagesAt.same {lab : Lab} {K : Nat → Prop} {w w' : World} {D : Dat} {A : Adr} {n : Nat} (h : PagesAt lab w D A n) (hs : Same lab K w w') (hk : K 1) : PagesAt lab w' D A n :=
  fun p hp => ⟨(h p hp).1, (h p hp).2.of_block (hs _ _ (h p hp).1 hk)⟩
theorem RecAt.same {lab : Lab} {K : Nat → Prop} {w w' : World} {N : Nat} {D : Dat} {A : Adr} {i n m : Nat} (h : RecAt lab w N D A i n m) (hs : Same lab K w w') (hk : K 1) : RecAt lab w' N D A i n m :=
  ⟨h.tag, h.obj.of_block (hs _ _ h.tag hk), h.held.same hs hk, fun j hj => ⟨(h.hobj j hj).1, (h.hobj j hj).2.of_block (hs _ _ (h.hobj j hj).1 hk)⟩, h.wait.same hs hk⟩
theorem TrxAt.same {lab : Lab} {K : Nat → Prop} {w w' : World} {D : Dat} {A : Adr} {n : Nat} {σ : Nat → TS} (h : TrxAt lab w D A n σ) (hs : Same lab K w w') (hk : K 2) : TrxAt lab w' D A n σ :=
  fun t ht => ⟨(h t ht).1, (h t ht).2.1, (h t ht).2.2.1.of_blocks (hs _ _ (h t ht).1 hk) (hs _ _ (h t ht).2.1 hk), (h t ht).2.2.2⟩
theorem PagesAt.apart {lab : Lab} {w : World} {D : Dat} {A : Adr} {n : Nat} (h : PagesAt lab w D A n) : Apart w A.pa n :=
  ⟨fun i hi => by
    obtain ⟨g, ⟨c, h1, _⟩, _⟩ := (h i hi).2
    exact ⟨c, 41, h1⟩, fun i j hi hj e => by
    have h1 := (h i hi).1
    have h2 := (h j hj).1
    rw [e, h2] at h1
    cases h1; rfl⟩
/-- one transaction turns -/
theorem TrxAt.step {lab : Lab} {w w' : World} {D : Dat} {A : Adr} {n : Nat} {σ : Nat → TS} (h : TrxAt lab w D A n σ) {t : Nat} {τ : TS} (ht : TObj w' A.pa (A.ta t) (A.ma t) τ) (ha : All (Ok D.np) τ.kv)
    (hT : Touch (fun b => b = A.ta t ∨ b = A.ma t) w w') (htn : t < n) : TrxAt lab w' D A n (upd σ t τ) := fun u hu => by
  obtain ⟨h1, h2, h3, h4⟩ := h u hu
  by_cases e : u = t
  · subst e
    rw [upd_same]
    exact ⟨h1, h2, ht, ha⟩
  · rw [upd_other _ _ e]
    obtain ⟨g1, g2, _⟩ := h t htn
    refine ⟨h1, h2, h3.of_blocks (hT.block _ h3.lt ?_) (hT.block _ h3.map.lt ?_), h4⟩
    · rintro (e1 | e1)
      · rw [e1, g1] at h1; cases h1; exact e rfl
      · rw [e1, g2] at h1; cases h1
    · rintro (e1 | e1)
      · rw [e1, g1] at h2; cases h2
      · rw [e1, g2] at h2; cases h2; exact e rfl
end Go.Proofs.Ybulkeyzg
