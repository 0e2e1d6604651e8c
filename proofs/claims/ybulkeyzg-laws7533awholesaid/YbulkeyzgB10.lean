import Derived.Test.YbulkeyzgA9
namespace Go.Proofs.Ybulkeyzg
open Go.RowKit

/-! ### labels grow -/
theorem Grow.of_same {lab : Lab} {K : Nat → Prop} {w w' : World} (h : Same lab K w w') : Grow lab lab K w w' := fun b x hb hk => ⟨hb, h b x hb hk⟩
theorem Grow.trans {l1 l2 l3 : Lab} {K : Nat → Prop} {w w' w'' : World} (h : Grow l1 l2 K w w') (k : Grow l2 l3 K w' w'') : Grow l1 l3 K w w'' := fun b x hb hk =>
  ⟨(k b x (h b x hb hk).1 hk).1, (k b x (h b x hb hk).1 hk).2.trans (h b x hb hk).2⟩
theorem Grow.put1 {lab : Lab} {K : Nat → Prop} {w w' : World} (h : Same lab K w w') {b0 : Nat} (hf : lab b0 = none) (x : Tag) : Grow lab (put1 lab b0 x) K w w' := fun b y hb hk =>
  ⟨by rw [put1_other x (fun e => by rw [e, hf] at hb; cases hb)]; exact hb, h b y hb hk⟩
/-- a change of group g's blocks alone -/
def InG (lab : Lab) (g : Nat) (b : Nat) : Prop := ∃ x, lab b = some x ∧ x.1 = g
theorem Same.group {lab : Lab} {g : Nat} {w0 w w' : World} (hL : Labs w0 w lab) (h : Touch (InG lab g) w w') : Same lab (fun k => k ≠ g) w w' :=
  Same.of_touch h hL.lt fun b x hb hk ⟨y, h1, h2⟩ => by rw [hb] at h1; cases h1; exact hk h2
theorem Same.none {lab : Lab} {w0 w w' : World} (hL : Labs w0 w lab) (h : Touch (fun _ => False) w w') (K : Nat → Prop) : Same lab K w w' := Same.of_touch h hL.lt fun _ _ _ _ h => h
theorem Labs.touchG {w0 w w' : World} {lab : Lab} {g : Nat} (hL : Labs w0 w lab) (h : Touch (InG lab g) w w') : Labs w0 w' lab := hL.move h fun b ⟨x, hb, _⟩ => hL.ge b x hb
theorem Labs.touch0 {w0 w w' : World} {lab : Lab} (hL : Labs w0 w lab) (h : Touch (fun _ => False) w w') : Labs w0 w' lab := hL.move h fun _ h => h.elim

section
variable {lab lab' : Lab} {K : Nat → Prop} {w w' : World} {D : Dat} {A : Adr}
theorem Sl.grow {N : Nat} {x : Tag} {e size : Nat} {v : Value} {n : Nat} {xs : List Value} (h : Sl lab w N x e size v n xs) (hs : Grow lab lab' K w w') (hk : K x.1) : Sl lab' w' N x e size v n xs := by
  refine ⟨⟨h.1.1, ?_⟩, fun g hg => (hs g x (h.2 g hg) hk).1⟩
  rcases h.1.2 with h1 | ⟨g, cap, cur, rfl, h2, h3, h4⟩
  · exact .inl h1
  · exact .inr ⟨g, cap, cur, rfl, h2, (hs g x (h.2 g rfl) hk).2.trans h3, h4⟩
theorem PagesAt.grow {n : Nat} (h : PagesAt lab w D A n) (hs : Grow lab lab' K w w') (hk : K 1) : PagesAt lab' w' D A n :=
  fun p hp => ⟨(hs _ _ (h p hp).1 hk).1, (h p hp).2.of_block (hs _ _ (h p hp).1 hk).2⟩
theorem RecAt.grow {N i n m : Nat} (h : RecAt lab w N D A i n m) (hs : Grow lab lab' K w w') (hk : K 1) : RecAt lab' w' N D A i n m :=
  ⟨(hs _ _ h.tag hk).1, h.obj.of_block (hs _ _ h.tag hk).2, h.held.grow hs hk, fun j hj => ⟨(hs _ _ (h.hobj j hj).1 hk).1, (h.hobj j hj).2.of_block (hs _ _ (h.hobj j hj).1 hk).2⟩, h.wait.grow hs hk⟩
theorem TrxAt.grow {n : Nat} {σ : Nat → TS} (h : TrxAt lab w D A n σ) (hs : Grow lab lab' K w w') (hk : K 2) : TrxAt lab' w' D A n σ :=
  fun t ht => ⟨(hs _ _ (h t ht).1 hk).1, (hs _ _ (h t ht).2.1 hk).1, (h t ht).2.2.1.of_blocks (hs _ _ (h t ht).1 hk).2 (hs _ _ (h t ht).2.1 hk).2, (h t ht).2.2.2⟩
theorem QAt.grow {n : Nat} {β : Nat → Int} (h : QAt lab w D A n β) (hs : Grow lab lab' K w w') (hk : K 5) : QAt lab' w' D A n β :=
  fun i hi j hj => ⟨(hs _ _ (h i hi j hj).1 hk).1, (h i hi j hj).2.of_block (hs _ _ (h i hi j hj).1 hk).2⟩
theorem PG.grow {I : Inp} {psB mbB n : Nat} (h : PG I lab w A psB mbB n) (hs : Grow lab lab' K w w') (hk : K 1) : PG I lab' w' A psB mbB n :=
  ⟨(hs _ _ h.tps hk).1, h.rps.of_block (hs _ _ h.tps hk).2, (hs _ _ h.tmb hk).1, h.rmb.of_block (hs _ _ h.tmb hk).2, h.pages.grow hs hk⟩
end

/-! ### the model's memory -/
structure MB where
  ms : Nat
  mf : Nat
  kb : Nat
  vb : Nat
structure Mod (lab : Lab) (w : World) (N nt : Nat) (B : MB) (ks vs : Nat → Value) (s f : Nat → Int) (kk vv : Nat → KV) : Prop where
  t0 : lab B.ms = some (3, 0, 0)
  r0 : w.rowIs B.ms 3 nt (fun t => .int .i64 (s t))
  t1 : lab B.mf = some (3, 1, 0)
  r1 : w.rowIs B.mf 3 nt (fun t => .int .i64 (f t))
  t2 : lab B.kb = some (3, 2, 0)
  r2 : w.rowIs B.kb 65 nt ks
  t3 : lab B.vb = some (3, 3, 0)
  r3 : w.rowIs B.vb 33 nt vs
  keys : ∀ t, t < nt → Sl lab w N (3, 4, t) 57 3 (ks t) (kk t).length (keysL (kk t))
  vals : ∀ t, t < nt → Sl lab w N (3, 5, t) 3 1 (vs t) (vv t).length (valsL (vv t))

section
variable {lab lab' : Lab} {w0 w w' : World} {N nt : Nat} {B : MB} {ks vs : Nat → Value} {s f : Nat → Int} {kk vv : Nat → KV}
theorem Mod.grow {K : Nat → Prop} (h : Mod lab w N nt B ks vs s f kk vv) (hs : Grow lab lab' K w w') (hk : K 3) : Mod lab' w' N nt B ks vs s f kk vv :=
  ⟨(hs _ _ h.t0 hk).1, h.r0.of_block (hs _ _ h.t0 hk).2, (hs _ _ h.t1 hk).1, h.r1.of_block (hs _ _ h.t1 hk).2, (hs _ _ h.t2 hk).1, h.r2.of_block (hs _ _ h.t2 hk).2, (hs _ _ h.t3 hk).1, h.r3.of_block (hs _ _ h.t3 hk).2,
    fun t ht => (h.keys t ht).grow hs hk, fun t ht => (h.vals t ht).grow hs hk⟩
theorem Mod.congr {s' f' : Nat → Int} {kk' vv' : Nat → KV} (h : Mod lab w N nt B ks vs s f kk vv) (h1 : ∀ t, t < nt → s t = s' t) (h2 : ∀ t, t < nt → f t = f' t) (h3 : ∀ t, t < nt → kk t = kk' t) (h4 : ∀ t, t < nt → vv t = vv' t) : Mod lab w N nt B ks vs s' f' kk' vv' :=
  ⟨h.t0, h.r0.congr fun t ht => by rw [h1 t ht], h.t1, h.r1.congr fun t ht => by rw [h2 t ht], h.t2, h.r2, h.t3, h.r3, fun t ht => by rw [← h3 t ht]; exact h.keys t ht, fun t ht => by rw [← h4 t ht]; exact h.vals t ht⟩

theorem tag_ne {lab : Lab} {a b : Nat} {x y : Tag} (h1 : lab a = some x) (h2 : lab b = some y) (h : x ≠ y) : a ≠ b := fun e => by
  rw [e, h2] at h1
  cases h1
  exact h rfl

theorem Sl.setOther {x : Tag} {e size : Nat} {v : Value} {n : Nat} {xs : List Value} (h : Sl lab w N x e size v n xs) {a : Addr} {y : Tag} (ha : lab a.block = some y) (hne : x ≠ y) (u : Value) : Sl lab (w.setCell a u) N x e size v n xs := by
  refine ⟨⟨h.1.1, ?_⟩, h.2⟩
  rcases h.1.2 with h1 | ⟨g, cap, cur, rfl, h2, h3, h4⟩
  · exact .inl h1
  · exact .inr ⟨g, cap, cur, rfl, h2, (Go.Deep.blk_setCell_other _ _ _ _ (tag_ne (h.2 g rfl) ha hne)).trans h3, h4⟩

/-- a store to 'mStructs[t]' -/
theorem Mod.setS (h : Mod lab w N nt B ks vs s f kk vv) (t : Nat) (z : Int) : Mod lab (w.setCell ⟨B.ms, t, none⟩ (.int .i64 z)) N nt B ks vs (upd s t z) f kk vv :=
  ⟨h.t0, (h.r0.set t _).congr fun u _ => by
      by_cases e : u = t
      · rw [if_pos e, e, upd_same]
      · rw [if_neg e, upd_other _ _ e],
    h.t1, h.r1.setOther (tag_ne h.t1 h.t0 (by simp)) _, h.t2, h.r2.setOther (tag_ne h.t2 h.t0 (by simp)) _, h.t3, h.r3.setOther (tag_ne h.t3 h.t0 (by simp)) _,
    fun u hu => (h.keys u hu).setOther h.t0 (by simp) _, fun u hu => (h.vals u hu).setOther h.t0 (by simp) _⟩
/-- a store to 'mFloored[t]' -/
theorem Mod.setF (h : Mod lab w N nt B ks vs s f kk vv) (t : Nat) (z : Int) : Mod lab (w.setCell ⟨B.mf, t, none⟩ (.int .i64 z)) N nt B ks vs s (upd f t z) kk vv :=
  ⟨h.t0, h.r0.setOther (tag_ne h.t0 h.t1 (by simp)) _,
    h.t1, (h.r1.set t _).congr fun u _ => by
      by_cases e : u = t
      · rw [if_pos e, e, upd_same]
      · rw [if_neg e, upd_other _ _ e],
    h.t2, h.r2.setOther (tag_ne h.t2 h.t1 (by simp)) _, h.t3, h.r3.setOther (tag_ne h.t3 h.t1 (by simp)) _,
    fun u hu => (h.keys u hu).setOther h.t1 (by simp) _, fun u hu => (h.vals u hu).setOther h.t1 (by simp) _⟩

theorem keysL_get : ∀ (kv : KV) (x : Nat) (e : Key × Int), kv[x]? = some e → (keysL kv)[x * 3]? = some (.int .i64 e.1.1) ∧ (keysL kv)[x * 3 + 1]? = some (.int .u8 e.1.2.1) ∧ (keysL kv)[x * 3 + 2]? = some (.int .u8 e.1.2.2)
  | [], _, _, h => by simp at h
  | a :: l, 0, e, h => by
    simp at h
    subst h
    exact ⟨rfl, rfl, rfl⟩
  | a :: l, x + 1, e, h => by
    have ih := keysL_get l x e (by simpa using h)
    have h0 : keysL (a :: l) = .int .i64 a.1.1 :: .int .u8 a.1.2.1 :: .int .u8 a.1.2.2 :: keysL l := rfl
    rw [h0, show (x + 1) * 3 = x * 3 + 3 by omega]
    exact ih
theorem keysL_len (kv : KV) : (keysL kv).length = kv.length * 3 := by
  induction kv with
  | nil => rfl
  | cons a l ih =>
    show (keysL l).length + 1 + 1 + 1 = _
    rw [ih, List.length_cons]; omega
theorem keysL_app (kv : KV) (e : Key × Int) : keysL (kv ++ [e]) = keysL kv ++ keyC e.1 := by simp [keysL]
theorem valsL_app (kv : KV) (e : Key × Int) : valsL (kv ++ [e]) = valsL kv ++ [.int .i64 e.2] := by simp [valsL]

theorem Sl.keysAt {lab : Lab} {w : World} {N : Nat} {x : Tag} {v : Value} {kv : KV} (h : Sl lab w N x 57 3 v kv.length (keysL kv)) : ∃ a c, v = .slice a kv.length c ∧ KeysAt w a kv := by
  obtain ⟨⟨hl, h1⟩, h2⟩ := h
  rcases h1 with ⟨h3, h0⟩ | ⟨g, cap, cur, rfl, h3, h4, h5, h6, h7, h8⟩
  · refine ⟨none, 0, by rw [h0]; exact h3, fun x e he => ?_⟩
    have : kv = [] := List.eq_nil_of_length_eq_zero h0
    subst this
    simp at he
  · refine ⟨_, _, rfl, fun x e he => ⟨g, rfl, ?_, ?_⟩⟩
    · rcases Nat.lt_or_ge g w.heap.size with hlt | hge
      · exact hlt
      · rw [Array.getElem?_eq_none hge] at h4; cases h4
    · have hx : x < kv.length := by
        rcases Nat.lt_or_ge x kv.length with h | h
        · exact h
        · rw [List.getElem?_eq_none h] at he; cases he
      have C : ∀ j, j < kv.length * 3 → w.cell? ⟨g, j, none⟩ = (keysL kv)[j]? := fun j hj => by
        rw [cell_of_row w g j cur 57 (0, 0) h4, ← h8, List.getElem?_take, if_pos hj, Array.getElem?_toList]
      obtain ⟨k0, k1, k2⟩ := keysL_get kv x e he
      rw [C _ (by omega), C _ (by omega), C _ (by omega)]
      exact ⟨k0, k1, k2⟩

/-! what the labels K have is as it was -/
def GrowT (lab lab' : Lab) (K : Tag → Prop) (w w' : World) : Prop := ∀ b x, lab b = some x → K x → lab' b = some x ∧ w'.heap[b]? = w.heap[b]?
theorem GrowT.grow {K : Nat → Prop} {K' : Tag → Prop} (h : GrowT lab lab' K' w w') (hk : ∀ x, K x.1 → K' x) : Grow lab lab' K w w' := fun b x hb hx => h b x hb (hk x hx)
theorem Sl.growT {K : Tag → Prop} {N : Nat} {x : Tag} {e size : Nat} {v : Value} {n : Nat} {xs : List Value} (h : Sl lab w N x e size v n xs) (hs : GrowT lab lab' K w w') (hk : K x) : Sl lab' w' N x e size v n xs := by
  refine ⟨⟨h.1.1, ?_⟩, fun g hg => (hs g x (h.2 g hg) hk).1⟩
  rcases h.1.2 with h1 | ⟨g, cap, cur, rfl, h2, h3, h4⟩
  · exact .inl h1
  · exact .inr ⟨g, cap, cur, rfl, h2, (hs g x (h.2 g rfl) hk).2.trans h3, h4⟩

/-- what bears no label is as it was -/
def Free (lab lab' : Lab) (w w' : World) : Prop := ∀ b, lab b = none → b < w.heap.size → lab' b = none ∧ w'.heap[b]? = w.heap[b]?
/-- a slice of the call's own grows, and its header is stored: what holds of all else -/
theorem app_grow {x y : Tag} {e size n : Nat} {v : Value} {xs : List Value} (hL : Labs w0 w lab) (hv : Sl lab w N x e size v n xs) {w1 w2 : World} (h1 : Touch (fun _ => False) w w1) (hg : w1.grownBy w2 v.ownBlock) {g cap m : Nat}
    (hat : v.ownBlock = some g ∨ g = w1.heap.size) (hlt : g < w2.heap.size) {rb i : Nat} (hr : lab rb = some y) (u : Value) (hu : u = .slice (some ⟨g, 0, none⟩) m cap) :
    Labs w0 (w2.setCell ⟨rb, i, none⟩ u) (put1 lab g x) ∧ GrowT lab (put1 lab g x) (fun z => z ≠ x ∧ z ≠ y) w (w2.setCell ⟨rb, i, none⟩ u) ∧ (∀ b z, lab b = some z → put1 lab g x b = some z) ∧
      Free lab (put1 lab g x) w (w2.setCell ⟨rb, i, none⟩ u) := by
  have hpre : ∀ b z, lab b = some z → put1 lab g x b = some z := fun b z hb => by
    by_cases e1 : b = g
    · subst e1
      rw [put1_same]
      rcases hat with h2 | h2
      · rw [hv.2 b h2] at hb; exact hb
      · have := hL.lt b z hb
        have := h1.size
        omega
    · rw [put1_other x e1]; exact hb
  have hT1 : Touch (fun b => lab b = some x ∨ b = rb) w w2 := (h1.mono fun _ _ h => h.elim).grown hg fun k hk => .inl (.inl (hv.2 k hk))
  have hT : Touch (fun b => lab b = some x ∨ b = rb) w (w2.setCell ⟨rb, i, none⟩ u) := hT1.setCell (.inl (.inr rfl)) _
  have hge : w0.heap.size ≤ g := by
    rcases hat with h2 | h2
    · exact hL.ge _ _ (hv.2 g h2)
    · rw [h2]; exact Nat.le_trans hL.bel.size h1.size
  refine ⟨⟨(hL.move hT ?_).bel, fun b z hb => ?_, fun b z hb => ?_⟩, fun b z hb hz => ⟨hpre b z hb, hT.block b (hL.lt b z hb) ?_⟩, hpre, fun b hb hbl => ⟨?_, hT.block b hbl ?_⟩⟩
  · rintro b (hb | rfl)
    · exact hL.ge _ _ hb
    · exact hL.ge _ _ hr
  · by_cases e1 : b = g
    · subst e1; rw [setCell_size]; exact hlt
    · rw [put1_other x e1] at hb; exact Nat.lt_of_lt_of_le (hL.lt b z hb) hT.size
  · by_cases e1 : b = g
    · subst e1; exact hge
    · rw [put1_other x e1] at hb; exact hL.ge b z hb
  · rintro (h2 | rfl)
    · rw [hb] at h2; cases h2; exact hz.1 rfl
    · rw [hb] at hr; cases hr; exact hz.2 rfl
  · rw [put1_other x ?_]
    · exact hb
    · rintro rfl
      rcases hat with h2 | h2
      · rw [hv.2 _ h2] at hb; cases hb
      · have := h1.size
        omega
  · rintro (h2 | rfl)
    · rw [hb] at h2; cases h2
    · rw [hb] at hr; cases hr

theorem Mod.appK (hL : Labs w0 w lab) (h : Mod lab w N nt B ks vs s f kk vv) {t : Nat} (ht : t < nt) (e : Key × Int) {w1 w2 : World} (h1 : Touch (fun _ => False) w w1) (hg : w1.grownBy w2 (ks t).ownBlock) {g cap : Nat}
    (hown : w2.ownsRow N 57 3 (.slice (some ⟨g, 0, none⟩) ((kk t).length + 1) cap) ((kk t).length + 1) (keysL (kk t) ++ keyC e.1)) (hat : (ks t).ownBlock = some g ∨ g = w1.heap.size) (hlt : g < w2.heap.size) {u : Value} (hu : u = .slice (some ⟨g, 0, none⟩) ((kk t).length + 1) cap) :
    ∃ lab', Free lab lab' w (w2.setCell ⟨B.kb, t, none⟩ u) ∧ Labs w0 (w2.setCell ⟨B.kb, t, none⟩ u) lab' ∧ Grow lab lab' (fun k => k ≠ 3) w (w2.setCell ⟨B.kb, t, none⟩ u) ∧ Mod lab' (w2.setCell ⟨B.kb, t, none⟩ u) N nt B (upd ks t u) vs s f (upd kk t (kk t ++ [e])) vv := by
  obtain ⟨a1, a2, a3, a4⟩ := app_grow (i := t) hL (h.keys t ht) h1 hg hat hlt h.t2 u hu
  have hne : g ≠ B.kb := by
    rcases hat with h2 | h2
    · exact tag_ne ((h.keys t ht).2 g h2) h.t2 (by simp)
    · have := hL.lt _ _ h.t2
      have := h1.size
      omega
  have hkb : (w2.setCell ⟨B.kb, t, none⟩ u).rowIs B.kb 65 nt (upd ks t u) := by
    have hb : w2.heap[B.kb]? = w.heap[B.kb]? := ((h1.mono (S' := fun b => lab b = some (3, 4, t)) fun _ _ h => h.elim).grown hg fun k hk => .inl ((h.keys t ht).2 k hk)).block _ (hL.lt _ _ h.t2) (by rw [h.t2]; simp)
    refine ((h.r2.of_block hb).set t u).congr fun j _ => ?_
    by_cases e1 : j = t
    · rw [if_pos e1, e1, upd_same]
    · rw [if_neg e1, upd_other _ _ e1]
  refine ⟨_, a4, a1, a2.grow fun x hx => ⟨fun e1 => by rw [e1] at hx; exact hx rfl, fun e1 => by rw [e1] at hx; exact hx rfl⟩, a3 _ _ h.t0, h.r0.of_block (a2 _ _ h.t0 ⟨by simp, by simp⟩).2, a3 _ _ h.t1, h.r1.of_block (a2 _ _ h.t1 ⟨by simp, by simp⟩).2, a3 _ _ h.t2, hkb, a3 _ _ h.t3, h.r3.of_block (a2 _ _ h.t3 ⟨by simp, by simp⟩).2, fun q hq => ?_, fun q hq => (h.vals q hq).growT a2 ⟨by simp, by simp⟩⟩
  by_cases e1 : q = t
  · subst e1
    rw [upd_same, upd_same, keysL_app, List.length_append, List.length_singleton]
    refine ⟨?_, fun g' hg' => ?_⟩
    · refine ⟨hown.1, ?_⟩
      rcases hown.2 with ⟨h2, _⟩ | ⟨g2, cap2, cur, h2, h3, h4, h5⟩
      · cases h2
      · cases h2
        exact .inr ⟨g, cap, cur, hu, h3, (Go.Deep.blk_setCell_other _ _ _ _ hne).trans h4, h5⟩
    · rw [hu] at hg'
      cases hg'
      exact put1_same _ _ _
  · rw [upd_other _ _ e1, upd_other _ _ e1]
    exact (h.keys q hq).growT a2 ⟨by simpa using e1, by simp⟩
end
end Go.Proofs.Ybulkeyzg
