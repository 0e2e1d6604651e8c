import Derived.Test.YbulkeyzgBA
import Derived.Test.YbulkeyzgB12
namespace Go.Proofs.Ybulkeyzg
open Go.RowKit

/-- all that lies while the records are made: n in the row 'rs', K made, of each ch locks and cw requests; q requests in all -/
structure RS (I : Inp) (w0 : World) (lab : Lab) (w : World) (A : Adr) (psB mbB tsB rsB : Nat) (B : MB) (ks vs : Nat → Value) (n K : Nat) (ch cw : Nat → Nat) (q : Nat) (s f : Nat → Int) (kk vv : Nat → KV) (wt : List Int) (rqv wtv : Value) : Prop where
  labs : Labs w0 w lab
  pg : PG I lab w A psB mbB I.D.np
  tts : lab tsB = some (1, 9, 0)
  rts : w.rowIs tsB 45 I.D.nt (fun i => ptr (A.ta i))
  trx : TrxAt lab w I.D A I.D.nt I.σ0
  mod : Mod lab w w0.heap.size I.D.nt B ks vs s f kk vv
  trs : lab rsB = some (1, 0, 0)
  rrs : w.rowIs rsB 39 I.lr (upto n (fun i => ptr (A.ra i)) (.pointer none))
  recs : ∀ i, i < K → RecAt lab w w0.heap.size I.D A i (ch i) (cw i)
  reqo : ∀ i, i < K → ∀ j, j < cw i → lab (A.qa (I.D.off i + j)) = some (5, I.D.off i + j, 0) ∧ QObj w (A.qa (I.D.off i + j)) (A.ta (I.D.qt i j)) (-7)
  reqs : Sl lab w w0.heap.size (1, 10, 0) 78 1 rqv q ((List.range q).map fun g => ptr (A.qa g))
  want : Sl lab w w0.heap.size (6, 0, 0) 3 1 wtv wt.length (wt.map fun z => .int .i64 z)

section
variable {I : Inp} {w0 w w' : World} {lab lab' : Lab} {A : Adr} {psB mbB tsB rsB : Nat} {B : MB} {ks vs : Nat → Value} {n K : Nat} {ch cw : Nat → Nat} {q : Nat} {s f : Nat → Int} {kk vv : Nat → KV} {wt : List Int} {rqv wtv : Value}

theorem RS.growAll (h : RS I w0 lab w A psB mbB tsB rsB B ks vs n K ch cw q s f kk vv wt rqv wtv) (hL : Labs w0 w' lab') (hs : Grow lab lab' (fun _ => True) w w') : RS I w0 lab' w' A psB mbB tsB rsB B ks vs n K ch cw q s f kk vv wt rqv wtv :=
  ⟨hL, h.pg.grow hs trivial, (hs _ _ h.tts trivial).1, h.rts.of_block (hs _ _ h.tts trivial).2, h.trx.grow hs trivial, h.mod.grow hs trivial, (hs _ _ h.trs trivial).1, h.rrs.of_block (hs _ _ h.trs trivial).2,
    fun i hi => (h.recs i hi).grow hs trivial, fun i hi j hj => ⟨(hs _ _ (h.reqo i hi j hj).1 trivial).1, (h.reqo i hi j hj).2.of_block (hs _ _ (h.reqo i hi j hj).1 trivial).2⟩, h.reqs.grow hs trivial, h.want.grow hs trivial⟩
theorem RS.touch0 (h : RS I w0 lab w A psB mbB tsB rsB B ks vs n K ch cw q s f kk vv wt rqv wtv) (ht : Touch (fun _ => False) w w') : RS I w0 lab w' A psB mbB tsB rsB B ks vs n K ch cw q s f kk vv wt rqv wtv :=
  h.growAll (h.labs.touch0 ht) (Grow.of_same (Same.none h.labs ht _))
/-- a change of the model's blocks -/
theorem RS.mod3 {ks' vs' : Nat → Value} {s' f' : Nat → Int} {kk' vv' : Nat → KV} (h : RS I w0 lab w A psB mbB tsB rsB B ks vs n K ch cw q s f kk vv wt rqv wtv) (hL : Labs w0 w' lab') (hs : Grow lab lab' (fun k => k ≠ 3) w w') (hm : Mod lab' w' w0.heap.size I.D.nt B ks' vs' s' f' kk' vv') :
    RS I w0 lab' w' A psB mbB tsB rsB B ks' vs' n K ch cw q s' f' kk' vv' wt rqv wtv :=
  ⟨hL, h.pg.grow hs (by simp), (hs _ _ h.tts (by simp)).1, h.rts.of_block (hs _ _ h.tts (by simp)).2, h.trx.grow hs (by simp), hm, (hs _ _ h.trs (by simp)).1, h.rrs.of_block (hs _ _ h.trs (by simp)).2,
    fun i hi => (h.recs i hi).grow hs (by simp), fun i hi j hj => ⟨(hs _ _ (h.reqo i hi j hj).1 (by simp)).1, (h.reqo i hi j hj).2.of_block (hs _ _ (h.reqo i hi j hj).1 (by simp)).2⟩, h.reqs.grow hs (by simp), h.want.grow hs (by simp)⟩

theorem RecAt.growT {K : Tag → Prop} {N i n m : Nat} {D : Dat} (h : RecAt lab w N D A i n m) (hs : GrowT lab lab' K w w') (h3 : K (1, 3, i)) (h4 : K (1, 4, i)) (h5 : K (1, 5, i)) (h6 : K (1, 6, i)) : RecAt lab' w' N D A i n m :=
  ⟨(hs _ _ h.tag h3).1, h.obj.of_block (hs _ _ h.tag h3).2, h.held.growT hs h4, fun j hj => ⟨(hs _ _ (h.hobj j hj).1 h5).1, (h.hobj j hj).2.of_block (hs _ _ (h.hobj j hj).1 h5).2⟩, h.wait.growT hs h6⟩
/-- all of RS but the records from i0 on: where the labels' blocks that turn are those of record i0, of 'reqs', of 'rs' -/
theorem RS.part {K' : Tag → Prop} (h : RS I w0 lab w A psB mbB tsB rsB B ks vs n K ch cw q s f kk vv wt rqv wtv) (hs : GrowT lab lab' K' w w') (h2 : ∀ p, K' (1, 2, p)) (h7 : K' (1, 7, 0)) (h8 : K' (1, 8, 0)) (h9 : K' (1, 9, 0)) (g2 : ∀ x, x.1 = 2 → K' x) (g3 : ∀ x, x.1 = 3 → K' x) :
    PG I lab' w' A psB mbB I.D.np ∧ lab' tsB = some (1, 9, 0) ∧ w'.rowIs tsB 45 I.D.nt (fun i => ptr (A.ta i)) ∧ TrxAt lab' w' I.D A I.D.nt I.σ0 ∧ Mod lab' w' w0.heap.size I.D.nt B ks vs s f kk vv :=
  ⟨⟨(hs _ _ h.pg.tps h7).1, h.pg.rps.of_block (hs _ _ h.pg.tps h7).2, (hs _ _ h.pg.tmb h8).1, h.pg.rmb.of_block (hs _ _ h.pg.tmb h8).2, fun p hp => ⟨(hs _ _ (h.pg.pages p hp).1 (h2 p)).1, (h.pg.pages p hp).2.of_block (hs _ _ (h.pg.pages p hp).1 (h2 p)).2⟩⟩,
    (hs _ _ h.tts h9).1, h.rts.of_block (hs _ _ h.tts h9).2, h.trx.grow (K := fun k => k = 2) (hs.grow fun x hx => g2 x hx) rfl, h.mod.grow (K := fun k => k = 3) (hs.grow fun x hx => g3 x hx) rfl⟩

theorem RecAt.adr {N i n m : Nat} {D : Dat} {A' : Adr} (h : RecAt lab w N D A i n m) (e1 : A'.pa = A.pa) (e2 : A'.ta = A.ta) (e3 : A'.ra i = A.ra i) (e4 : A'.hv i = A.hv i) (e5 : A'.wv i = A.wv i) (e6 : ∀ j, j < n → A'.ha i j = A.ha i j) (e7 : ∀ j, j < m → A'.qa (D.off i + j) = A.qa (D.off i + j)) : RecAt lab w N D A' i n m := by
  refine ⟨by rw [e3]; exact h.tag, by rw [e3, e1, e4, e5]; exact h.obj, ?_, fun j hj => ?_, ?_⟩
  · rw [e4]
    have : ((List.range n).map fun j => ptr (A'.ha i j)) = (List.range n).map fun j => ptr (A.ha i j) := List.map_congr_left fun j hj => by rw [e6 j (List.mem_range.1 hj)]
    rw [this]
    exact h.held
  · rw [e6 j hj, e2, e3]; exact h.hobj j hj
  · rw [e5]
    have : ((List.range m).map fun j => ptr (A'.qa (D.off i + j))) = (List.range m).map fun j => ptr (A.qa (D.off i + j)) := List.map_congr_left fun j hj => by rw [e7 j (List.mem_range.1 hj)]
    rw [this]
    exact h.wait

/-- a record is made, at b -/
theorem RS.newRec (h : RS I w0 lab w A psB mbB tsB rsB B ks vs n K ch cw q s f kk vv wt rqv wtv) (hnK : n ≤ K) {W : World} (ht : Touch (fun _ => False) w W) {b : Nat} (hb1 : w.heap.size ≤ b) (hb2 : b < W.heap.size) (hobj : RObj W b (A.pa (I.D.p K)) (I.R K).heap (I.R K).sup (.slice none 0 0) (.slice none 0 0)) :
    ∃ lab' A', A'.ra K = b ∧ A'.pa = A.pa ∧ A'.ta = A.ta ∧ Free lab lab' w W ∧ RS I w0 lab' W A' psB mbB tsB rsB B ks vs n (K + 1) (upd ch K 0) (upd cw K 0) q s f kk vv wt rqv wtv := by
  have hG : Grow lab (put1 lab b (1, 3, K)) (fun _ => True) w W := Grow.put1 (Same.none h.labs ht _) (h.labs.fresh hb1) _
  have hL : Labs w0 W (put1 lab b (1, 3, K)) := h.labs.put1 (h.labs.touch0 ht).bel ht.size _ hb1 hb2
  have hR := h.growAll hL hG
  refine ⟨_, { A with ra := upd A.ra K b, hv := upd A.hv K (.slice none 0 0), wv := upd A.wv K (.slice none 0 0) }, upd_same _ _ _, rfl, rfl, fun c hc hlt => ⟨by rw [put1_other _ (by omega)]; exact hc, ht.block c hlt id⟩, hL, ⟨hR.pg.tps, hR.pg.rps, hR.pg.tmb, hR.pg.rmb, hR.pg.pages⟩, hR.tts, hR.rts, hR.trx, hR.mod, hR.trs, ?_, fun i hi => ?_, fun i hi j hj => ?_, hR.reqs, hR.want⟩
  · refine hR.rrs.congr fun j hj => ?_
    by_cases e : j < n
    · rw [upto_lt _ _ e, upto_lt _ _ e]
      show _ = ptr (upd A.ra K b j)
      rw [upd_other _ _ (by omega)]
    · rw [upto_ge _ _ (by omega), upto_ge _ _ (by omega)]
  · by_cases e : i = K
    · subst e
      rw [upd_same, upd_same]
      refine ⟨?_, ?_, ?_, fun j hj => by omega, ?_⟩
      · show put1 _ _ _ (upd A.ra i b i) = _
        rw [upd_same, put1_same]
      · show RObj W (upd A.ra i b i) _ _ _ (upd A.hv i _ i) (upd A.wv i _ i)
        rw [upd_same, upd_same, upd_same]
        exact hobj
      · show Sl _ _ _ _ _ _ (upd A.hv i _ i) _ _
        rw [upd_same]
        exact ⟨⟨rfl, .inl ⟨rfl, rfl⟩⟩, fun g hg => by cases hg⟩
      · show Sl _ _ _ _ _ _ (upd A.wv i _ i) _ _
        rw [upd_same]
        exact ⟨⟨rfl, .inl ⟨rfl, rfl⟩⟩, fun g hg => by cases hg⟩
    · rw [upd_other _ _ e, upd_other _ _ e]
      exact (hR.recs i (by omega)).adr rfl rfl (upd_other _ _ e) (upd_other _ _ e) (upd_other _ _ e) (fun _ _ => rfl) (fun _ _ => rfl)
  · by_cases e : i = K
    · subst e
      rw [upd_same] at hj
      omega
    · rw [upd_other _ _ e] at hj
      exact hR.reqo i (by omega) j hj

/-- a slice of the call's own grows; no store -/
theorem app_grow0 {x : Tag} {e size m : Nat} {v : Value} {xs : List Value} (hL : Labs w0 w lab) (hv : Sl lab w w0.heap.size x e size v m xs) {w1 w2 : World} (h1 : Touch (fun _ => False) w w1) (hg : w1.grownBy w2 v.ownBlock) {g cap m' : Nat} {ys : List Value}
    (hat : v.ownBlock = some g ∨ g = w1.heap.size) (hlt : g < w2.heap.size) (hown : w2.ownsRow w0.heap.size e size (.slice (some ⟨g, 0, none⟩) m' cap) m' ys) :
    Labs w0 w2 (put1 lab g x) ∧ GrowT lab (put1 lab g x) (fun z => z ≠ x) w w2 ∧ Free lab (put1 lab g x) w w2 ∧ Sl (put1 lab g x) w2 w0.heap.size x e size (.slice (some ⟨g, 0, none⟩) m' cap) m' ys := by
  have hpre : ∀ b z, lab b = some z → put1 lab g x b = some z := fun b z hb => by
    by_cases e1 : b = g
    · subst e1
      rw [put1_same]
      rcases hat with h2 | h2
      · rw [hv.2 b h2] at hb; exact hb
      · have := hL.lt b z hb
        have := h1.size
        omega
    · rw [put1_other x e1]; exact hb
  have hT : Touch (fun b => lab b = some x) w w2 := (h1.mono fun _ _ h => h.elim).grown hg fun k hk => .inl (hv.2 k hk)
  have hge : w0.heap.size ≤ g := by
    rcases hat with h2 | h2
    · exact hL.ge _ _ (hv.2 g h2)
    · rw [h2]; exact Nat.le_trans hL.bel.size h1.size
  refine ⟨⟨(hL.move hT fun b hb => hL.ge _ _ hb).bel, fun b z hb => ?_, fun b z hb => ?_⟩, fun b z hb hz => ⟨hpre b z hb, hT.block b (hL.lt b z hb) fun h2 => by rw [hb] at h2; cases h2; exact hz rfl⟩, fun b hb hbl => ⟨?_, hT.block b hbl fun h2 => by rw [hb] at h2; cases h2⟩, hown, fun g' hg' => by cases hg'; exact put1_same _ _ _⟩
  · by_cases e1 : b = g
    · subst e1; exact hlt
    · rw [put1_other x e1] at hb; exact Nat.lt_of_lt_of_le (hL.lt b z hb) hT.size
  · by_cases e1 : b = g
    · subst e1; exact hge
    · rw [put1_other x e1] at hb; exact hL.ge b z hb
  · rw [put1_other x ?_]
    · exact hb
    · rintro rfl
      rcases hat with h2 | h2
      · rw [hv.2 _ h2] at hb; cases hb
      · have := h1.size
        omega

/-- 'want = append(want, z)' -/
theorem RS.appWant (h : RS I w0 lab w A psB mbB tsB rsB B ks vs n K ch cw q s f kk vv wt rqv wtv) (z : Int) {w1 w2 : World} (h1 : Touch (fun _ => False) w w1) (hg : w1.grownBy w2 wtv.ownBlock) {g cap : Nat}
    (hat : wtv.ownBlock = some g ∨ g = w1.heap.size) (hlt : g < w2.heap.size) (hown : w2.ownsRow w0.heap.size 3 1 (.slice (some ⟨g, 0, none⟩) (wt.length + 1) cap) (wt.length + 1) ((wt.map fun z => .int .i64 z) ++ [.int .i64 z])) :
    ∃ lab', Free lab lab' w w2 ∧ RS I w0 lab' w2 A psB mbB tsB rsB B ks vs n K ch cw q s f kk vv (wt ++ [z]) rqv (.slice (some ⟨g, 0, none⟩) (wt.length + 1) cap) := by
  obtain ⟨a1, a2, a3, a4⟩ := app_grow0 h.labs h.want h1 hg hat hlt hown
  have hs : Grow lab (put1 lab g (6, 0, 0)) (fun k => k ≠ 6) w w2 := a2.grow fun x hx => by rintro rfl; exact hx rfl
  refine ⟨_, a3, a1, h.pg.grow hs (by simp), (hs _ _ h.tts (by simp)).1, h.rts.of_block (hs _ _ h.tts (by simp)).2, h.trx.grow hs (by simp), h.mod.grow hs (by simp), (hs _ _ h.trs (by simp)).1, h.rrs.of_block (hs _ _ h.trs (by simp)).2,
    fun i hi => (h.recs i hi).grow hs (by simp), fun i hi j hj => ⟨(hs _ _ (h.reqo i hi j hj).1 (by simp)).1, (h.reqo i hi j hj).2.of_block (hs _ _ (h.reqo i hi j hj).1 (by simp)).2⟩, h.reqs.grow hs (by simp), ?_⟩
  rw [List.length_append, List.length_singleton, List.map_append]
  exact a4
/-- 'reqs = append(reqs, r)', where request q is there -/
theorem RS.appReq (h : RS I w0 lab w A psB mbB tsB rsB B ks vs n K ch cw q s f kk vv wt rqv wtv) {w1 w2 : World} (h1 : Touch (fun _ => False) w w1) (hg : w1.grownBy w2 rqv.ownBlock) {g cap : Nat}
    (hat : rqv.ownBlock = some g ∨ g = w1.heap.size) (hlt : g < w2.heap.size) (hown : w2.ownsRow w0.heap.size 78 1 (.slice (some ⟨g, 0, none⟩) (q + 1) cap) (q + 1) (((List.range q).map fun g => ptr (A.qa g)) ++ [ptr (A.qa q)])) :
    ∃ lab', Free lab lab' w w2 ∧ RS I w0 lab' w2 A psB mbB tsB rsB B ks vs n K ch cw (q + 1) s f kk vv wt (.slice (some ⟨g, 0, none⟩) (q + 1) cap) wtv := by
  obtain ⟨a1, a2, a3, a4⟩ := app_grow0 h.labs h.reqs h1 hg hat hlt hown
  obtain ⟨p1, p2, p3, p4, p5⟩ := h.part a2 (fun _ => by simp) (by simp) (by simp) (by simp) (fun x hx => by rintro rfl; cases hx) (fun x hx => by rintro rfl; cases hx)
  refine ⟨_, a3, a1, p1, p2, p3, p4, p5, (a2 _ _ h.trs (by simp)).1, h.rrs.of_block (a2 _ _ h.trs (by simp)).2, fun i hi => (h.recs i hi).growT a2 (by simp) (by simp) (by simp) (by simp), fun i hi j hj => ⟨(a2 _ _ (h.reqo i hi j hj).1 (by simp)).1, (h.reqo i hi j hj).2.of_block (a2 _ _ (h.reqo i hi j hj).1 (by simp)).2⟩, ?_, h.want.growT a2 (by simp)⟩
  rw [List.range_succ, List.map_append, List.map_singleton]
  exact a4
/-- 'rs[n] = rec' -/
theorem RS.setRs (h : RS I w0 lab w A psB mbB tsB rsB B ks vs n K ch cw q s f kk vv wt rqv wtv) : RS I w0 lab (w.setCell ⟨rsB, n, none⟩ (ptr (A.ra n))) A psB mbB tsB rsB B ks vs (n + 1) K ch cw q s f kk vv wt rqv wtv := by
  have hT : Touch (fun b => b = rsB) w (w.setCell ⟨rsB, n, none⟩ (ptr (A.ra n))) := Touch.setCell (S := fun b => b = rsB) (Touch.refl _ _) (.inl rfl) _
  have a2 : GrowT lab lab (fun x => x ≠ (1, 0, 0)) w (w.setCell ⟨rsB, n, none⟩ (ptr (A.ra n))) := fun b x hb hx => ⟨hb, hT.block b (h.labs.lt b x hb) fun e => by rw [e, h.trs] at hb; cases hb; exact hx rfl⟩
  obtain ⟨p1, p2, p3, p4, p5⟩ := h.part a2 (fun _ => by simp) (by simp) (by simp) (by simp) (fun x hx => by rintro rfl; cases hx) (fun x hx => by rintro rfl; cases hx)
  refine ⟨h.labs.move hT fun b hb => by rw [hb]; exact h.labs.ge _ _ h.trs, p1, p2, p3, p4, p5, h.trs, ?_, fun i hi => (h.recs i hi).growT a2 (by simp) (by simp) (by simp) (by simp), fun i hi j hj => ⟨(h.reqo i hi j hj).1, (h.reqo i hi j hj).2.of_block (a2 _ _ (h.reqo i hi j hj).1 (by simp)).2⟩, h.reqs.growT a2 (by simp), h.want.growT a2 (by simp)⟩
  refine (h.rrs.set n _).congr fun j hj => ?_
  by_cases e : j = n
  · subst e
    rw [if_pos rfl, upto_lt _ _ (by omega)]
  · rw [if_neg e]
    by_cases e2 : j < n
    · rw [upto_lt _ _ e2, upto_lt _ _ (by omega)]
    · rw [upto_ge _ _ (by omega), upto_ge _ _ (by omega)]

theorem RObj.set9 {ra pp : Nat} {heap : Int} {sup : Bool} {hv wv : Value} (h : RObj w ra pp heap sup hv wv) (v : Value) : RObj (w.setCell ⟨ra, 9, none⟩ v) ra pp heap sup v wv := by
  obtain ⟨g, h1, h2, h3, h4, h5, h6⟩ := h
  exact ⟨_, h1.set 9 v, by simpa using h2, by simpa using h3, by simp, by simpa using h5, by simpa using h6⟩
theorem RObj.set10 {ra pp : Nat} {heap : Int} {sup : Bool} {hv wv : Value} (h : RObj w ra pp heap sup hv wv) (v : Value) : RObj (w.setCell ⟨ra, 10, none⟩ v) ra pp heap sup hv v := by
  obtain ⟨g, h1, h2, h3, h4, h5, h6⟩ := h
  exact ⟨_, h1.set 10 v, by simpa using h2, by simpa using h3, by simpa using h4, by simp, by simpa using h6⟩
end
end Go.Proofs.Ybulkeyzg
