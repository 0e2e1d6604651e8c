import Derived.Test.YbulkeyzgB10
namespace Go.Proofs.Ybulkeyzg
open Go.RowKit

theorem blk_setCell_same {w : World} {g j : Nat} {cur : Array Value} {e : TypeId} (h : w.heap[g]? = some (.cells cur e (0, 0))) (u : Value) : (w.setCell ⟨g, j, none⟩ u).heap[g]? = some (.cells (cur.setIfInBounds j u) e (0, 0)) := by
  unfold World.setCell
  simp only [Array.getElem?_modify, if_true, h, Option.map_some]
  rfl

theorem Sl.set1 {lab : Lab} {w : World} {N : Nat} {x : Tag} {e : Nat} {n g cap : Nat} {xs : List Value} (h : Sl lab w N x e 1 (.slice (some ⟨g, 0, none⟩) n cap) n xs) (j : Nat) (u : Value) :
    Sl lab (w.setCell ⟨g, j, none⟩ u) N x e 1 (.slice (some ⟨g, 0, none⟩) n cap) n (xs.set j u) := by
  refine ⟨⟨by rw [List.length_set]; exact h.1.1, ?_⟩, h.2⟩
  rcases h.1.2 with ⟨h1, _⟩ | ⟨g', cap', cur, h1, h2, h3, h4, h5, h6, h7⟩
  · cases h1
  · cases h1
    refine .inr ⟨g, cap, _, rfl, h2, blk_setCell_same h3 u, h4, h5, by rw [Array.size_setIfInBounds]; exact h6, ?_⟩
    rw [Array.toList_setIfInBounds, ← h7, List.take_set]

section
variable {lab lab' : Lab} {w0 w w' : World} {N nt : Nat} {B : MB} {ks vs : Nat → Value} {s f : Nat → Int} {kk vv : Nat → KV}
theorem Mod.appV (hL : Labs w0 w lab) (h : Mod lab w N nt B ks vs s f kk vv) {t : Nat} (ht : t < nt) (e : Key × Int) {w1 w2 : World} (h1 : Touch (fun _ => False) w w1) (hg : w1.grownBy w2 (vs t).ownBlock) {g cap : Nat}
    (hown : w2.ownsRow N 3 1 (.slice (some ⟨g, 0, none⟩) ((vv t).length + 1) cap) ((vv t).length + 1) (valsL (vv t) ++ [.int .i64 e.2])) (hat : (vs t).ownBlock = some g ∨ g = w1.heap.size) (hlt : g < w2.heap.size) {u : Value} (hu : u = .slice (some ⟨g, 0, none⟩) ((vv t).length + 1) cap) :
    ∃ lab', Free lab lab' w (w2.setCell ⟨B.vb, t, none⟩ u) ∧ Labs w0 (w2.setCell ⟨B.vb, t, none⟩ u) lab' ∧ Grow lab lab' (fun k => k ≠ 3) w (w2.setCell ⟨B.vb, t, none⟩ u) ∧ Mod lab' (w2.setCell ⟨B.vb, t, none⟩ u) N nt B ks (upd vs t u) s f kk (upd vv t (vv t ++ [e])) := by
  obtain ⟨a1, a2, a3, a4⟩ := app_grow (i := t) hL (h.vals t ht) h1 hg hat hlt h.t3 u hu
  have hne : g ≠ B.vb := by
    rcases hat with h2 | h2
    · exact tag_ne ((h.vals t ht).2 g h2) h.t3 (by simp)
    · have := hL.lt _ _ h.t3
      have := h1.size
      omega
  have hkb : (w2.setCell ⟨B.vb, t, none⟩ u).rowIs B.vb 33 nt (upd vs t u) := by
    have hb : w2.heap[B.vb]? = w.heap[B.vb]? := ((h1.mono (S' := fun b => lab b = some (3, 5, t)) fun _ _ h => h.elim).grown hg fun k hk => .inl ((h.vals t ht).2 k hk)).block _ (hL.lt _ _ h.t3) (by rw [h.t3]; simp)
    refine ((h.r3.of_block hb).set t u).congr fun j _ => ?_
    by_cases e1 : j = t
    · rw [if_pos e1, e1, upd_same]
    · rw [if_neg e1, upd_other _ _ e1]
  refine ⟨_, a4, a1, a2.grow fun x hx => ⟨fun e1 => by rw [e1] at hx; exact hx rfl, fun e1 => by rw [e1] at hx; exact hx rfl⟩, a3 _ _ h.t0, h.r0.of_block (a2 _ _ h.t0 ⟨by simp, by simp⟩).2, a3 _ _ h.t1, h.r1.of_block (a2 _ _ h.t1 ⟨by simp, by simp⟩).2, a3 _ _ h.t2, h.r2.of_block (a2 _ _ h.t2 ⟨by simp, by simp⟩).2, a3 _ _ h.t3, hkb, fun q hq => (h.keys q hq).growT a2 ⟨by simp, by simp⟩, fun q hq => ?_⟩
  by_cases e1 : q = t
  · subst e1
    rw [upd_same, upd_same, valsL_app, List.length_append, List.length_singleton]
    refine ⟨?_, fun g' hg' => ?_⟩
    · refine ⟨hown.1, ?_⟩
      rcases hown.2 with ⟨h2, _⟩ | ⟨g2, cap2, cur, h2, h3, h4, h5⟩
      · cases h2
      · cases h2
        exact .inr ⟨g, cap, cur, hu, h3, (Go.Deep.blk_setCell_other _ _ _ _ hne).trans h4, h5⟩
    · rw [hu] at hg'
      cases hg'
      exact put1_same _ _ _
  · rw [upd_other _ _ e1, upd_other _ _ e1]
    exact (h.vals q hq).growT a2 ⟨by simpa using e1, by simp⟩

/-- 'mVals[t][x] = b' -/
theorem Mod.setV (h : Mod lab w N nt B ks vs s f kk vv) {t : Nat} (ht : t < nt) (x : Nat) (e : Key × Int) {g cap : Nat} (hv : vs t = .slice (some ⟨g, 0, none⟩) (vv t).length cap) :
    Mod lab (w.setCell ⟨g, x, none⟩ (.int .i64 e.2)) N nt B ks vs s f kk (upd vv t ((vv t).set x e)) ∧ lab g = some (3, 5, t) := by
  have hvt := h.vals t ht
  rw [hv] at hvt
  have htag := hvt.2 g rfl
  refine ⟨⟨h.t0, h.r0.setOther (tag_ne h.t0 htag (by simp)) _, h.t1, h.r1.setOther (tag_ne h.t1 htag (by simp)) _, h.t2, h.r2.setOther (tag_ne h.t2 htag (by simp)) _, h.t3, h.r3.setOther (tag_ne h.t3 htag (by simp)) _, fun q hq => (h.keys q hq).setOther htag (by simp) _, fun q hq => ?_⟩, htag⟩
  by_cases e1 : q = t
  · subst e1
    rw [upd_same]
    have hl : valsL ((vv q).set x e) = (valsL (vv q)).set x (.int .i64 e.2) := by simp [valsL, List.map_set]
    rw [List.length_set, hl, hv]
    exact hvt.set1 x _
  · rw [upd_other _ _ e1]
    exact (h.vals q hq).setOther htag (by simpa using e1) _
end

/-- the model's state as the plain one says -/
def ModS (lab : Lab) (w : World) (N nt : Nat) (B : MB) (ks vs : Nat → Value) (σ : Nat → TS) : Prop := Mod lab w N nt B ks vs (fun t => (σ t).s) (fun t => (σ t).f) (fun t => (σ t).kv) (fun t => (σ t).kv)

theorem keysL_set {kv : KV} {x : Nat} {e : Key × Int} (h : (kv[x]?).map (·.1) = some e.1) : keysL (kv.set x e) = keysL kv := by
  induction kv generalizing x with
  | nil => rfl
  | cons a l ih =>
    cases x with
    | zero =>
      simp at h
      show keyC e.1 ++ keysL l = keyC a.1 ++ keysL l
      rw [h]
    | succ x =>
      show keyC a.1 ++ keysL (l.set x e) = keyC a.1 ++ keysL l
      rw [ih (by simpa using h)]

/-- all that lies while the transactions are made: n in the row 'ts', m made -/
structure TG (I : Inp) (w0 : World) (lab : Lab) (w : World) (A : Adr) (psB mbB tsB : Nat) (B : MB) (ks vs : Nat → Value) (n m : Nat) (s f : Nat → Int) (kk vv : Nat → KV) (σ : Nat → TS) : Prop where
  labs : Labs w0 w lab
  pg : PG I lab w A psB mbB I.D.np
  tts : lab tsB = some (1, 9, 0)
  rts : w.rowIs tsB 45 I.D.nt (upto n (fun i => ptr (A.ta i)) (.pointer none))
  mod : Mod lab w w0.heap.size I.D.nt B ks vs s f kk vv
  trx : TrxAt lab w I.D A m σ

section
variable {I : Inp} {w0 w w' : World} {lab lab' : Lab} {A : Adr} {psB mbB tsB : Nat} {B : MB} {ks vs : Nat → Value} {n m : Nat} {s f : Nat → Int} {kk vv : Nat → KV} {σ : Nat → TS}
theorem TG.touch0 (h : TG I w0 lab w A psB mbB tsB B ks vs n m s f kk vv σ) (ht : Touch (fun _ => False) w w') : TG I w0 lab w' A psB mbB tsB B ks vs n m s f kk vv σ := by
  have hs : Grow lab lab (fun _ => True) w w' := Grow.of_same (Same.none h.labs ht _)
  exact ⟨h.labs.touch0 ht, h.pg.grow hs trivial, h.tts, h.rts.of_block (hs _ _ h.tts trivial).2, h.mod.grow hs trivial, h.trx.grow hs trivial⟩
/-- a change of the model's blocks -/
theorem TG.mod3 {ks' vs' : Nat → Value} {s' f' : Nat → Int} {kk' vv' : Nat → KV} (h : TG I w0 lab w A psB mbB tsB B ks vs n m s f kk vv σ) (hL : Labs w0 w' lab') (hs : Grow lab lab' (fun k => k ≠ 3) w w') (hm : Mod lab' w' w0.heap.size I.D.nt B ks' vs' s' f' kk' vv') :
    TG I w0 lab' w' A psB mbB tsB B ks' vs' n m s' f' kk' vv' σ :=
  ⟨hL, h.pg.grow hs (by simp), (hs _ _ h.tts (by simp)).1, h.rts.of_block (hs _ _ h.tts (by simp)).2, hm, h.trx.grow hs (by simp)⟩
/-- transaction t turns -/
theorem TG.turn (h : TG I w0 lab w A psB mbB tsB B ks vs n m s f kk vv σ) {t : Nat} (ht : t < m) {τ : TS} (hT : TObj w' A.pa (A.ta t) (A.ma t) τ) (ha : All (Ok I.D.np) τ.kv) (hw : Touch (fun b => b = A.ta t ∨ b = A.ma t) w w') :
    TG I w0 lab w' A psB mbB tsB B ks vs n m s f kk vv (upd σ t τ) := by
  obtain ⟨g1, g2, _⟩ := h.trx t ht
  have hI : Touch (InG lab 2) w w' := hw.mono fun b _ hb => by
    rcases hb with rfl | rfl
    · exact ⟨_, g1, rfl⟩
    · exact ⟨_, g2, rfl⟩
  have hs : Grow lab lab (fun k => k ≠ 2) w w' := Grow.of_same (Same.group h.labs hI)
  exact ⟨h.labs.touchG hI, h.pg.grow hs (by simp), h.tts, h.rts.of_block (hs _ _ h.tts (by simp)).2, h.mod.grow hs (by simp), h.trx.step hT ha hw ht⟩
/-- 'ts[n] = t' -/
theorem TG.setTs (h : TG I w0 lab w A psB mbB tsB B ks vs n m s f kk vv σ) : TG I w0 lab (w.setCell ⟨tsB, n, none⟩ (ptr (A.ta n))) A psB mbB tsB B ks vs (n + 1) m s f kk vv σ := by
  have hT : Touch (fun b => b = tsB) w (w.setCell ⟨tsB, n, none⟩ (ptr (A.ta n))) := Touch.setCell (S := fun b => b = tsB) (Touch.refl _ _) (.inl rfl) _
  have hs : GrowT lab lab (fun x => x ≠ (1, 9, 0)) w (w.setCell ⟨tsB, n, none⟩ (ptr (A.ta n))) := fun b x hb hx => ⟨hb, hT.block b (h.labs.lt b x hb) fun e => by rw [e, h.tts] at hb; cases hb; exact hx rfl⟩
  refine ⟨h.labs.move hT fun b hb => by rw [hb]; exact h.labs.ge _ _ h.tts, ⟨h.pg.tps, h.pg.rps.of_block (hs _ _ h.pg.tps (by simp)).2, h.pg.tmb, h.pg.rmb.of_block (hs _ _ h.pg.tmb (by simp)).2, fun p hp => ⟨(h.pg.pages p hp).1, (h.pg.pages p hp).2.of_block (hs _ _ (h.pg.pages p hp).1 (by simp)).2⟩⟩, h.tts, ?_,
    h.mod.grow (K := fun k => k = 3) (hs.grow fun x hx => by rintro rfl; cases hx) rfl, h.trx.grow (K := fun k => k = 2) (hs.grow fun x hx => by rintro rfl; cases hx) rfl⟩
  refine (h.rts.set n _).congr fun j hj => ?_
  by_cases e : j = n
  · subst e
    rw [if_pos rfl, upto_lt _ _ (by omega)]
  · rw [if_neg e]
    by_cases e2 : j < n
    · rw [upto_lt _ _ e2, upto_lt _ _ (by omega)]
    · rw [upto_ge _ _ (by omega), upto_ge _ _ (by omega)]
/-- a transaction is made: its map at w.heap.size, its object behind it -/
theorem TG.make (h : TG I w0 lab w A psB mbB tsB B ks vs n m s f kk vv σ) (hnm : n ≤ m) (cs : Array Value) (hcs : cs.size = 13) (h9 : cs[9]? = some (.int .i64 0)) (h10 : cs[10]? = some (.int .i64 0)) (h11 : cs[11]? = some (.map (some w.heap.size))) (h12 : cs[12]? = some (.map none)) :
    ∃ lab' A', A'.pa = A.pa ∧ A'.ta m = w.heap.size + 1 ∧ A'.ma m = w.heap.size ∧ TG I w0 lab' ((w.alloc (.map #[] 0)).alloc (.cells cs 53)) A' psB mbB tsB B ks vs n (m + 1) s f kk vv (upd σ m ⟨0, 0, []⟩) := by
  obtain ⟨W, hW⟩ : ∃ W, W = (w.alloc (.map #[] 0)).alloc (.cells cs 53) := ⟨_, rfl⟩
  rw [← hW]
  have hs1 : (w.alloc (.map #[] 0)).heap.size = w.heap.size + 1 := by show (w.heap.push _).size = _; simp
  have hsW : W.heap.size = w.heap.size + 2 := by rw [hW]; show ((w.heap.push _).push _).size = _; simp
  have hT : Touch (fun _ => False) w W := by rw [hW]; exact ((Touch.refl _ _).alloc _).alloc _
  have hL1 : Labs w0 W (put1 lab (w.heap.size + 1) (2, 0, m)) := h.labs.put1 (h.labs.touch0 hT).bel hT.size _ (by omega) (by omega)
  have hL2 : Labs w0 W (put1 (put1 lab (w.heap.size + 1) (2, 0, m)) w.heap.size (2, 1, m)) := by
    refine ⟨hL1.bel, fun b x hb => ?_, fun b x hb => ?_⟩
    · by_cases e : b = w.heap.size
      · omega
      · rw [put1_other _ e] at hb; exact hL1.lt b x hb
    · by_cases e : b = w.heap.size
      · rw [e]; exact h.labs.bel.size
      · rw [put1_other _ e] at hb; exact hL1.ge b x hb
  have hs : Grow lab (put1 (put1 lab (w.heap.size + 1) (2, 0, m)) w.heap.size (2, 1, m)) (fun _ => True) w W := fun b x hb _ => by
    have hlt := h.labs.lt b x hb
    rw [put1_other _ (by omega), put1_other _ (by omega)]
    exact ⟨hb, hT.block b hlt id⟩
  have hrow : W.rowIs (w.heap.size + 1) 53 13 (fun j => (cs[j]?).getD undef) := by
    have h1 := World.rowIs_alloc (w.alloc (.map #[] 0)) cs 53 (fun j => (cs[j]?).getD undef) (fun j hj => by rw [Array.getElem?_eq_getElem hj]; rfl)
    rw [hs1, hcs] at h1
    rw [hW]
    exact h1
  have hmap : W.heap[w.heap.size]? = some (.map #[] 0) := by
    rw [hW, Go.Deep.blk_alloc_lt _ _ _ (by omega)]
    exact Go.Deep.blk_alloc_new _ _
  refine ⟨_, { A with ta := upd A.ta m (w.heap.size + 1), ma := upd A.ma m w.heap.size }, rfl, upd_same _ _ _, upd_same _ _ _, hL2, ?_, (hs _ _ h.tts trivial).1, ?_, h.mod.grow hs trivial, fun t ht => ?_⟩
  · have := h.pg.grow hs trivial
    exact ⟨this.tps, this.rps, this.tmb, this.rmb, this.pages⟩
  · refine (h.rts.of_block (hs _ _ h.tts trivial).2).congr fun j hj => ?_
    by_cases e : j < n
    · rw [upto_lt _ _ e, upto_lt _ _ e]
      show _ = ptr (upd A.ta m _ j)
      rw [upd_other _ _ (by omega)]
    · rw [upto_ge _ _ (by omega), upto_ge _ _ (by omega)]
  · show put1 _ _ _ (upd A.ta m _ t) = _ ∧ put1 _ _ _ (upd A.ma m _ t) = _ ∧ TObj W A.pa (upd A.ta m _ t) (upd A.ma m _ t) _ ∧ _
    by_cases e : t = m
    · subst e
      rw [upd_same, upd_same, upd_same, put1_same, put1_other _ (by omega), put1_same]
      refine ⟨rfl, rfl, ⟨⟨_, hrow, ?_, ?_, ?_, ?_⟩, #[], 0, hmap, rfl⟩, fun e he => by cases he⟩
      · rw [h9]; rfl
      · rw [h10]; rfl
      · rw [h11]; rfl
      · rw [h12]; rfl
    · rw [upd_other _ _ e, upd_other _ _ e, upd_other _ _ e]
      obtain ⟨h1, h2, h3, h4⟩ := h.trx t (by omega)
      exact ⟨(hs _ _ h1 trivial).1, (hs _ _ h2 trivial).1, h3.of_blocks (hs _ _ h1 trivial).2 (hs _ _ h2 trivial).2, h4⟩
end

/-- a block of the call's own that is only read: its cells -/
structure Tmp (lab : Lab) (w : World) (b : Nat) (l : List Value) : Prop where
  tag : lab b = none
  lt : b < w.heap.size
  cell : ∀ q v, l[q]? = some v → w.cell? ⟨b, q, none⟩ = some v
theorem Tmp.free {lab lab' : Lab} {w w' : World} {b : Nat} {l : List Value} (h : Tmp lab w b l) (hf : Free lab lab' w w') (hs : w.heap.size ≤ w'.heap.size) : Tmp lab' w' b l :=
  ⟨(hf b h.tag h.lt).1, Nat.lt_of_lt_of_le h.lt hs, fun q v hq => (World.cell?_of_block (a := ⟨b, q, none⟩) (hf b h.tag h.lt).2).trans (h.cell q v hq)⟩
theorem Free.touch {lab : Lab} {S : Nat → Prop} {w w' : World} (h : Touch S w w') (hS : ∀ b, S b → lab b ≠ none) : Free lab lab w w' := fun b hb hl => ⟨hb, h.block b hl fun hs => hS b hs hb⟩
theorem Tmp.new {lab : Lab} {w0 w : World} (hL : Labs w0 w lab) (cs : Array Value) (t : TypeId) : Tmp lab (w.alloc (.cells cs t)) w.heap.size cs.toList :=
  ⟨hL.fresh (Nat.le_refl _), by show _ < (w.heap.push _).size; simp, fun q v hq => by rw [cell_of_row _ _ q cs t (0, 0) (Go.Deep.blk_alloc_new _ _)]; simpa using hq⟩
end Go.Proofs.Ybulkeyzg
