import Derived.Test.YbulkexuoA
namespace Go.Proofs.Ybulkexuo
open Go.RowKit

/-! ### rises, plainly -/
structure Rs where
  p : Nat
  old : Int
  cnt : Int
  by_ : Bool
def riseC (r : Rs) : List Value := [.int .i32 r.p, .int .i32 r.old, .int .i32 r.cnt, .bool r.by_]
def riseL (R : List Rs) : List Value := R.flatMap riseC
theorem riseL_len (R : List Rs) : (riseL R).length = R.length * 4 := by
  induction R with
  | nil => rfl
  | cons r R ih =>
    show (riseL R).length + 1 + 1 + 1 + 1 = _
    rw [ih, List.length_cons]; omega
theorem riseL_app (R : List Rs) (r : Rs) : riseL (R ++ [r]) = riseL R ++ riseC r := by simp [riseL]
theorem riseL_get : ∀ (R : List Rs) (i : Nat) (r : Rs), R[i]? = some r → (riseL R)[i * 4]? = some (.int .i32 r.p) ∧ (riseL R)[i * 4 + 1]? = some (.int .i32 r.old) ∧ (riseL R)[i * 4 + 2]? = some (.int .i32 r.cnt) ∧ (riseL R)[i * 4 + 3]? = some (.bool r.by_)
  | [], _, _, h => by simp at h
  | a :: R, 0, r, h => by
    simp at h
    subst h
    exact ⟨rfl, rfl, rfl, rfl⟩
  | a :: R, i + 1, r, h => by
    have ih := riseL_get R i r (by simpa using h)
    have h0 : riseL (a :: R) = .int .i32 a.p :: .int .i32 a.old :: .int .i32 a.cnt :: .bool a.by_ :: riseL R := rfl
    rw [h0, show (i + 1) * 4 = i * 4 + 4 by omega]
    exact ih
theorem riseL_set : ∀ (R : List Rs) (i : Nat) (r : Rs) (c : Int) (b : Bool), R[i]? = some r → riseL (R.set i ⟨r.p, r.old, c, b⟩) = ((riseL R).set (i * 4 + 2) (.int .i32 c)).set (i * 4 + 3) (.bool b)
  | [], _, _, _, _, h => by simp at h
  | a :: R, 0, r, c, b, h => by
    simp at h
    subst h
    rfl
  | a :: R, i + 1, r, c, b, h => by
    have ih := riseL_set R i r c b (by simpa using h)
    have h0 : ∀ R : List Rs, riseL (a :: R) = .int .i32 a.p :: .int .i32 a.old :: .int .i32 a.cnt :: .bool a.by_ :: riseL R := fun _ => rfl
    show riseL (a :: R.set i ⟨r.p, r.old, c, b⟩) = _
    rw [h0, h0, ih, show (i + 1) * 4 + 2 = (i * 4 + 2) + 4 by omega, show (i + 1) * 4 + 3 = (i * 4 + 3) + 4 by omega]
    rfl
/-- p's place among the rises, from 1 -/
def ix : List Rs → Nat → Nat
  | [], _ => 0
  | r :: R, p => if r.p = p then 1 else if ix R p = 0 then 0 else ix R p + 1
theorem ix_le : ∀ (R : List Rs) (p : Nat), ix R p ≤ R.length
  | [], _ => Nat.le_refl _
  | r :: R, p => by
    have := ix_le R p
    unfold ix
    split
    · simp
    · split
      · exact Nat.zero_le _
      · simp; omega
theorem ix_some : ∀ (R : List Rs) (p : Nat), ix R p ≠ 0 → ∃ r, R[ix R p - 1]? = some r ∧ r.p = p
  | [], _, h => absurd rfl h
  | r :: R, p, h => by
    unfold ix at h ⊢
    by_cases hr : r.p = p
    · rw [if_pos hr]; exact ⟨r, rfl, hr⟩
    · rw [if_neg hr] at h ⊢
      by_cases h0 : ix R p = 0
      · rw [if_pos h0] at h; exact absurd rfl h
      · rw [if_neg h0]
        obtain ⟨r', h1, h2⟩ := ix_some R p h0
        refine ⟨r', ?_, h2⟩
        rw [show ix R p + 1 - 1 = (ix R p - 1) + 1 by omega, List.getElem?_cons_succ]
        exact h1
theorem ix_none : ∀ (R : List Rs) (p : Nat), ix R p = 0 → ∀ r ∈ R, r.p ≠ p
  | [], _, _, r, h => by cases h
  | a :: R, p, h, r, hr => by
    unfold ix at h
    by_cases ha : a.p = p
    · rw [if_pos ha] at h; cases h
    · rw [if_neg ha] at h
      by_cases h0 : ix R p = 0
      · rcases List.mem_cons.1 hr with rfl | hr
        · exact ha
        · exact ix_none R p h0 r hr
      · rw [if_neg h0] at h; cases h
theorem ix_app : ∀ (R : List Rs) (r : Rs) (p : Nat), ix (R ++ [r]) p = if ix R p ≠ 0 then ix R p else if r.p = p then R.length + 1 else 0
  | [], r, p => by simp [ix]
  | a :: R, r, p => by
    have ih := ix_app R r p
    show (if a.p = p then 1 else if ix (R ++ [r]) p = 0 then 0 else ix (R ++ [r]) p + 1) = if (if a.p = p then 1 else if ix R p = 0 then 0 else ix R p + 1) ≠ 0 then (if a.p = p then 1 else if ix R p = 0 then 0 else ix R p + 1) else if r.p = p then (a :: R).length + 1 else 0
    rw [ih]
    by_cases ha : a.p = p
    · simp [ha]
    · by_cases h0 : ix R p = 0
      · by_cases hr : r.p = p
        · simp [ha, h0, hr]
        · simp [ha, h0, hr]
      · simp [ha, h0]
theorem ix_set : ∀ (R : List Rs) (i : Nat) (r r' : Rs), R[i]? = some r → r'.p = r.p → ∀ p, ix (R.set i r') p = ix R p
  | [], _, _, _, h, _, _ => by simp at h
  | a :: R, 0, r, r', h, e, p => by
    simp at h
    subst h
    show (if r'.p = p then _ else _) = (if a.p = p then _ else _)
    rw [e]
  | a :: R, i + 1, r, r', h, e, p => by
    have ih := ix_set R i r r' (by simpa using h) e p
    show (if a.p = p then _ else if ix (R.set i r') p = 0 then 0 else ix (R.set i r') p + 1) = _
    rw [ih]
    rfl
def up (o : Rs) (c : Int) : Rs := if o.cnt < c then ⟨o.p, o.old, c, true⟩ else if c = o.cnt then ⟨o.p, o.old, o.cnt, true⟩ else o
theorem up_p (o : Rs) (c : Int) : (up o c).p = o.p := by unfold up; split <;> (try split) <;> rfl
def rz (R : List Rs) (r : Rs) : List Rs := if ix R r.p = 0 then R ++ [r] else match R[ix R r.p - 1]? with | some o => R.set (ix R r.p - 1) (up o r.cnt) | none => R

theorem pig : ∀ (N : Nat) (l : List Nat), l.Nodup → (∀ x ∈ l, x < N) → l.length ≤ N
  | 0, l, _, h => by
    cases l with
    | nil => simp
    | cons a l => exact absurd (h a (List.mem_cons_self ..)) (by omega)
  | N + 1, l, hn, h => by
    have ih := pig N (l.erase N) (hn.erase N) fun x hx => by
      have h1 := (List.Nodup.mem_erase_iff hn).1 hx
      have := h x h1.2
      omega
    by_cases hm : N ∈ l
    · rw [List.length_erase_of_mem hm] at ih
      omega
    · rw [List.erase_of_not_mem hm] at ih
      omega
structure WF (N : Nat) (R : List Rs) : Prop where
  nd : (R.map Rs.p).Nodup
  lt : ∀ r ∈ R, r.p < N
theorem WF.len {N : Nat} {R : List Rs} (h : WF N R) : R.length ≤ N := by
  have := pig N (R.map Rs.p) h.nd fun x hx => by
    obtain ⟨r, hr, rfl⟩ := List.mem_map.1 hx
    exact h.lt r hr
  simpa using this
theorem WF.rz {N : Nat} {R : List Rs} (h : WF N R) {r : Rs} (hr : r.p < N) : WF N (rz R r) := by
  unfold Ybulkexuo.rz
  by_cases h0 : ix R r.p = 0
  · rw [if_pos h0]
    refine ⟨?_, fun x hx => ?_⟩
    · rw [List.map_append, List.nodup_append]
      refine ⟨h.nd, by simp, fun a ha b hb => ?_⟩
      simp at hb
      subst hb
      obtain ⟨x, hx, rfl⟩ := List.mem_map.1 ha
      exact ix_none R r.p h0 x hx
    · rcases List.mem_append.1 hx with hx | hx
      · exact h.lt x hx
      · simp at hx; subst hx; exact hr
  · rw [if_neg h0]
    obtain ⟨o, ho, hp⟩ := ix_some R r.p h0
    rw [ho]
    have hm : (R.set (ix R r.p - 1) (up o r.cnt)).map Rs.p = R.map Rs.p := by
      rw [List.map_set, up_p]
      apply List.ext_getElem?
      intro i
      rw [List.getElem?_set]
      by_cases e : ix R r.p - 1 = i
      · subst e
        rw [if_pos rfl, List.getElem?_map, ho]
        have : ix R r.p - 1 < (R.map Rs.p).length := by
          rw [List.length_map]
          exact (List.getElem?_eq_some_iff.1 ho).1
        rw [if_pos this]
        rfl
      · rw [if_neg e]
    show WF N (R.set (ix R r.p - 1) (up o r.cnt))
    refine ⟨by rw [hm]; exact h.nd, fun x hx => ?_⟩
    have : x.p ∈ (R.set (ix R r.p - 1) (up o r.cnt)).map Rs.p := List.mem_map.2 ⟨x, hx, rfl⟩
    rw [hm] at this
    obtain ⟨y, hy, e⟩ := List.mem_map.1 this
    rw [← e]
    exact h.lt y hy

/-! ### the arena while entries are checked -/
structure ST where
  rV : Value
  raV : Value
  cV : Value
  iV : Value
def TSet (arB : Nat) (st : ST) (b : Nat) : Prop := b = arB ∨ st.rV.ownBlock = some b ∨ st.raV.ownBlock = some b ∨ st.cV.ownBlock = some b ∨ st.iV.ownBlock = some b
def Step (arB : Nat) (st : ST) (w : World) (st' : ST) (w' : World) : Prop := Touch (TSet arB st) w w' ∧ ∀ b, TSet arB st' b → TSet arB st b ∨ w.heap.size ≤ b
section
variable {arB : Nat} {st st' st'' : ST} {w w' w'' : World}
theorem Step.refl : Step arB st w st w := ⟨Touch.refl _ _, fun _ h => .inl h⟩
theorem Step.trans (h : Step arB st w st' w') (k : Step arB st' w' st'' w'') : Step arB st w st'' w'' :=
  ⟨⟨k.1.os.trans h.1.os, k.1.tape.trans h.1.tape, k.1.output.trans h.1.output, Nat.le_trans h.1.size k.1.size, fun b hb hn => (k.1.block b (Nat.lt_of_lt_of_le hb h.1.size) fun hs => by
      rcases h.2 b hs with h1 | h1
      · exact hn h1
      · omega).trans (h.1.block b hb hn)⟩, fun b hb => by
    rcases k.2 b hb with h1 | h1
    · exact h.2 b h1
    · exact .inr (Nat.le_trans h.1.size h1)⟩
theorem Step.of_touch0 (h : Touch (fun _ => False) w w') : Step arB st w st w' := ⟨h.mono fun _ _ h => h.elim, fun _ h => .inl h⟩
theorem Step.of_below (h : Below w.heap.size w w') : Step arB st w st w' := ⟨Touch.of_below h, fun _ h => .inl h⟩
theorem Step.keep (h : Step arB st w st' w') {b : Nat} (hb : b < w.heap.size) (hn : ¬ TSet arB st b) : w'.heap[b]? = w.heap[b]? ∧ ¬ TSet arB st' b :=
  ⟨h.1.block b hb hn, fun hs => by
    rcases h.2 b hs with h1 | h1
    · exact hn h1
    · omega⟩
end

structure CKF (D : PD) (F : Nat → Prop) (w : World) (arB : Nat) : Prop where
  lt : arB < w.heap.size
  u0 : w.cell? ⟨arB, 0, none⟩ = some (.slice none 0 0)
  u1 : w.cell? ⟨arB, 1, none⟩ = some (.slice none 0 0)
  ent : ∃ a c, w.cell? ⟨arB, 3, none⟩ = some (.slice a (D.eo D.ll) c) ∧ D.eo D.ll ≤ c ∧ c ≤ 9223372036854775807 ∧ (a = none ∧ D.eo D.ll = 0 ∧ c = 0 ∨ ∃ b, a = some ⟨b, 0, none⟩) ∧ ∀ k e, (D.ent D.ll)[k]? = some e → ∃ b, a = some ⟨b, 0, none⟩ ∧ F b ∧ b < w.heap.size ∧ w.cell? ⟨b, k * 2, none⟩ = some (.int .i32 e.1) ∧ w.cell? ⟨b, k * 2 + 1, none⟩ = some (.int .i32 e.2)
  lev : ∃ a c, w.cell? ⟨arB, 4, none⟩ = some (.slice a D.ll c) ∧ D.ll ≤ c ∧ c ≤ 9223372036854775807 ∧ (a = none ∧ D.ll = 0 ∧ c = 0 ∨ ∃ b, a = some ⟨b, 0, none⟩) ∧ ∀ l, l < D.ll → ∃ b, a = some ⟨b, 0, none⟩ ∧ F b ∧ b < w.heap.size ∧ w.cell? ⟨b, l * 2, none⟩ = some (.int .i32 (D.eo l)) ∧ w.cell? ⟨b, l * 2 + 1, none⟩ = some (.int .i32 (D.eo (l + 1)))
  hand : ∃ b c, w.cell? ⟨arB, 6, none⟩ = some (.slice (some ⟨b, 0, none⟩) D.N c) ∧ F b ∧ b < w.heap.size ∧ HandAt D w b
  kt : w.cell? ⟨arB, 11, none⟩ = some (.bool false)
section
variable {D : PD} {F : Nat → Prop} {w w' : World} {arB : Nat}
theorem CKF.ck (h : CKF D F w arB) : CK D w arB := by
  obtain ⟨a, c, e1, e2, e3, e4, e5⟩ := h.ent
  obtain ⟨a', c', f1, f2, f3, f4, f5⟩ := h.lev
  obtain ⟨b, c2, g1, -, g2, g3⟩ := h.hand
  exact ⟨h.lt, h.u0, h.u1, ⟨a, c, e1, e2, e3, e4, fun k e he => by obtain ⟨b, h1, -, h2⟩ := e5 k e he; exact ⟨b, h1, h2⟩⟩, ⟨a', c', f1, f2, f3, f4, fun l hl => by obtain ⟨b, h1, -, h2⟩ := f5 l hl; exact ⟨b, h1, h2⟩⟩, ⟨b, c2, g1, g2, g3⟩, h.kt⟩
theorem CKF.move (h : CKF D F w arB) (hF : ∀ b, F b → b < w.heap.size → w'.heap[b]? = w.heap[b]?) (hs : w.heap.size ≤ w'.heap.size) (ha : ∀ o, o < 13 → w'.cell? ⟨arB, o, none⟩ = w.cell? ⟨arB, o, none⟩) : CKF D F w' arB := by
  have C : ∀ {b o : Nat}, F b → b < w.heap.size → w'.cell? ⟨b, o, none⟩ = w.cell? ⟨b, o, none⟩ := fun {b o} h1 h2 => World.cell?_of_block (a := ⟨b, o, none⟩) (hF b h1 h2)
  have L : ∀ {b : Nat}, b < w.heap.size → b < w'.heap.size := fun h => Nat.lt_of_lt_of_le h hs
  obtain ⟨a, c, e1, e2, e3, e4, e5⟩ := h.ent
  obtain ⟨a', c', f1, f2, f3, f4, f5⟩ := h.lev
  obtain ⟨b, c2, g1, gF, g2, g3⟩ := h.hand
  refine ⟨L h.lt, (ha 0 (by omega)).trans h.u0, (ha 1 (by omega)).trans h.u1, ⟨a, c, (ha 3 (by omega)).trans e1, e2, e3, e4, fun k e he => ?_⟩, ⟨a', c', (ha 4 (by omega)).trans f1, f2, f3, f4, fun l hl => ?_⟩, ⟨b, c2, (ha 6 (by omega)).trans g1, gF, L g2, fun p hp => ?_⟩, (ha 11 (by omega)).trans h.kt⟩
  · obtain ⟨b, h1, hb, h2, h3, h4⟩ := e5 k e he
    exact ⟨b, h1, hb, L h2, (C hb h2).trans h3, (C hb h2).trans h4⟩
  · obtain ⟨b, h1, hb, h2, h3, h4⟩ := f5 l hl
    exact ⟨b, h1, hb, L h2, (C hb h2).trans h3, (C hb h2).trans h4⟩
  · obtain ⟨h1, h2, h3, h4⟩ := g3 p hp
    exact ⟨(C gF g2).trans h1, (C gF g2).trans h2, (C gF g2).trans h3, (C gF g2).trans h4⟩
end

/-- the arena: its rises R, their places ri, what was counted -/
structure AR (D : PD) (F : Nat → Prop) (B0 arB : Nat) (st : ST) (R : List Rs) (ri : Nat → Nat) (Qo : Option (Nat → Bool)) (w : World) : Prop where
  obj : ∃ f, w.rowIs arB 56 19 f ∧ f 13 = st.rV ∧ f 14 = st.raV ∧ f 16 = .int .i32 1 ∧ f 17 = st.cV ∧ f 18 = st.iV
  ck : CKF D F w arB
  notF : ∀ b, TSet arB st b → ¬ F b
  rr : w.ownsRow B0 46 4 st.rV R.length (riseL R)
  ra : (st.raV = .slice none 0 0 ∧ ∀ p, p < D.N → ri p = 0) ∨ ∃ b, st.raV = .slice (some ⟨b, 0, none⟩) D.N D.N ∧ w.rowIs b 21 D.N (fun p => .int .i32 (ri p))
  cc : (Qo = none ∧ st.cV = .slice none 0 0 ∧ st.iV = .slice none 0 0) ∨ ∃ Q b c, Qo = some Q ∧ st.cV = .slice (some ⟨b, 0, none⟩) D.N D.N ∧ st.iV = .slice (some ⟨c, 0, none⟩) D.N D.N ∧ b ≠ c ∧ w.rowIs b 21 D.N (fun q => .int .i32 (if Q q = true then D.cval q else 0)) ∧ w.rowIs c 21 D.N (fun q => .int .i32 (if Q q = true then 1 else 0))
  d1 : ∀ b, st.raV.ownBlock = some b → st.cV.ownBlock ≠ some b ∧ st.iV.ownBlock ≠ some b
  base : B0 ≤ w.heap.size
section
variable {D : PD} {F : Nat → Prop} {B0 arB : Nat} {st : ST} {R : List Rs} {ri : Nat → Nat} {Qo : Option (Nat → Bool)} {w w' : World}
/-- where none of its blocks turns -/
theorem AR.same (h : AR D F B0 arB st R ri Qo w) (hs : w.heap.size ≤ w'.heap.size) (hb : ∀ b, b < w.heap.size → TSet arB st b ∨ F b → w'.heap[b]? = w.heap[b]?) : AR D F B0 arB st R ri Qo w' := by
  obtain ⟨f, f1, f2⟩ := h.obj
  have hra : ∀ b t n g, TSet arB st b → w.rowIs b t n g → w'.rowIs b t n g := fun b t n g hT hr => hr.of_block (hb b hr.lt (.inl hT))
  refine ⟨⟨f, hra _ _ _ _ (.inl rfl) f1, f2⟩, h.ck.move (fun b hF hlt => hb b hlt (.inr hF)) hs (fun o _ => World.cell?_of_block (a := ⟨arB, o, none⟩) (hb arB f1.lt (.inl (.inl rfl)))), h.notF, own_block h.rr fun g hg => hb g (h.rr.lt g hg).2 (.inl (.inr (.inl hg))), ?_, ?_, h.d1, Nat.le_trans h.base hs⟩
  · rcases h.ra with h1 | ⟨b, h1, h2⟩
    · exact .inl h1
    · exact .inr ⟨b, h1, hra b _ _ _ (.inr (.inr (.inl (by rw [h1]; rfl)))) h2⟩
  · rcases h.cc with h1 | ⟨Q, b, c, h1, h2, h3, h4, h5, h6⟩
    · exact .inl h1
    · exact .inr ⟨Q, b, c, h1, h2, h3, h4, hra b _ _ _ (.inr (.inr (.inr (.inl (by rw [h2]; rfl))))) h5, hra c _ _ _ (.inr (.inr (.inr (.inr (by rw [h3]; rfl))))) h6⟩
theorem AR.touch0 (h : AR D F B0 arB st R ri Qo w) (ht : Touch (fun _ => False) w w') : AR D F B0 arB st R ri Qo w' := h.same ht.size fun b hb _ => ht.block b hb id
theorem AR.below (h : AR D F B0 arB st R ri Qo w) (hb : Below w.heap.size w w') : AR D F B0 arB st R ri Qo w' := h.same hb.size fun b hlt _ => hb.block b hlt
theorem AR.arow (h : AR D F B0 arB st R ri Qo w) : arB < w.heap.size := h.ck.lt
end
end Go.Proofs.Ybulkexuo
