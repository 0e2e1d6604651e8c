import Derived.Test.YbulkeyzgC1
namespace Go.Proofs.Ybulkeyzg
open Go.RowKit

section
variable {I : Inp} {w0 w w' : World} {lab lab' : Lab} {A : Adr} {psB mbB tsB rsB : Nat} {B : MB} {ks vs : Nat → Value} {n K : Nat} {ch cw : Nat → Nat} {q : Nat} {s f : Nat → Int} {kk vv : Nat → KV} {wt : List Int} {rqv wtv : Value}

theorem GrowT.after {l1 l2 l3 : Lab} {K' : Tag → Prop} {w1 w2 w3 : World} (h : Grow l1 l2 (fun _ => True) w1 w2) (k : GrowT l2 l3 K' w2 w3) : GrowT l1 l3 K' w1 w3 := fun b x hb hx =>
  ⟨(k b x (h b x hb trivial).1 hx).1, (k b x (h b x hb trivial).1 hx).2.trans (h b x hb trivial).2⟩

/-- 'rec.held = append(rec.held, &held{..})' -/
theorem RS.appHeld (h : RS I w0 lab w A psB mbB tsB rsB B ks vs n K ch cw q s f kk vv wt rqv wtv) {i : Nat} (hi : i < K) {W1 : World} (ht : Touch (fun _ => False) w W1) {hb : Nat} (hb1 : w.heap.size ≤ hb) (hb2 : hb < W1.heap.size)
    (hO : HObj W1 hb (A.ta (I.D.ht i (ch i))) (A.ra i) (I.D.hm i (ch i)) (I.D.hk i (ch i)) ((I.R i).h (ch i)).imp) {w2 : World} {g cap : Nat} (hg : W1.grownBy w2 (A.hv i).ownBlock) (hat : (A.hv i).ownBlock = some g ∨ g = W1.heap.size) (hlt : g < w2.heap.size)
    (hown : w2.ownsRow w0.heap.size 75 1 (.slice (some ⟨g, 0, none⟩) (ch i + 1) cap) (ch i + 1) (((List.range (ch i)).map fun j => ptr (A.ha i j)) ++ [ptr hb])) {u : Value} (hu : u = .slice (some ⟨g, 0, none⟩) (ch i + 1) cap) :
    ∃ lab' A', A'.pa = A.pa ∧ A'.ta = A.ta ∧ A'.ra = A.ra ∧ Free lab lab' w (w2.setCell ⟨A.ra i, 9, none⟩ u) ∧ RS I w0 lab' (w2.setCell ⟨A.ra i, 9, none⟩ u) A' psB mbB tsB rsB B ks vs n K (upd ch i (ch i + 1)) cw q s f kk vv wt rqv wtv := by
  have hG1 : Grow lab (put1 lab hb (1, 5, i)) (fun _ => True) w W1 := Grow.put1 (Same.none h.labs ht _) (h.labs.fresh hb1) _
  have hL1 : Labs w0 W1 (put1 lab hb (1, 5, i)) := h.labs.put1 (h.labs.touch0 ht).bel ht.size _ hb1 hb2
  have hR1 := h.growAll hL1 hG1
  have hF1 : Free lab (put1 lab hb (1, 5, i)) w W1 := fun c hc hcl => ⟨by rw [put1_other _ (by omega)]; exact hc, ht.block c hcl id⟩
  have hRi := hR1.recs i hi
  obtain ⟨a1, a2, a3, a4⟩ := app_grow (i := 9) hL1 hRi.held (Touch.refl _ W1) hg hat hlt hRi.tag u hu
  have hne : g ≠ A.ra i := by
    rcases hat with h2 | h2
    · exact tag_ne (hRi.held.2 g h2) hRi.tag (by simp)
    · have := hL1.lt _ _ hRi.tag
      omega
  have hF : Free lab (put1 (put1 lab hb (1, 5, i)) g (1, 4, i)) w (w2.setCell ⟨A.ra i, 9, none⟩ u) := fun c hc hcl =>
    ⟨(a4 c (hF1 c hc hcl).1 (Nat.lt_of_lt_of_le hcl ht.size)).1, (a4 c (hF1 c hc hcl).1 (Nat.lt_of_lt_of_le hcl ht.size)).2.trans (hF1 c hc hcl).2⟩
  obtain ⟨p1, p2, p3, p4, p5⟩ := hR1.part a2 (fun _ => ⟨by simp, by simp⟩) ⟨by simp, by simp⟩ ⟨by simp, by simp⟩ ⟨by simp, by simp⟩ (fun x hx => ⟨(by rintro rfl; cases hx), (by rintro rfl; cases hx)⟩) (fun x hx => ⟨(by rintro rfl; cases hx), (by rintro rfl; cases hx)⟩)
  refine ⟨_, { A with ha := fun a => if a = i then upd (A.ha i) (ch i) hb else A.ha a, hv := upd A.hv i u }, rfl, rfl, rfl, hF, a1, ⟨p1.tps, p1.rps, p1.tmb, p1.rmb, p1.pages⟩, p2, p3, p4, p5, a3 _ _ hR1.trs, hR1.rrs.of_block (a2 _ _ hR1.trs ⟨by simp, by simp⟩).2, fun k hk => ?_, fun k hk j hj => ⟨a3 _ _ (hR1.reqo k hk j hj).1, (hR1.reqo k hk j hj).2.of_block (a2 _ _ (hR1.reqo k hk j hj).1 ⟨by simp, by simp⟩).2⟩, hR1.reqs.growT a2 ⟨by simp, by simp⟩, hR1.want.growT a2 ⟨by simp, by simp⟩⟩
  by_cases e : k = i
  · subst e
    rw [upd_same]
    refine ⟨a3 _ _ hRi.tag, ?_, ?_, fun j hj => ?_, hRi.wait.growT a2 ⟨by simp, by simp⟩⟩
    · show RObj _ (A.ra k) _ _ _ (upd A.hv k u k) _
      rw [upd_same]
      refine RObj.set9 (hv := A.hv k) (hRi.obj.of_block ?_) u
      exact hg.block _ (hL1.lt _ _ hRi.tag) fun e1 => by
        have := hRi.held.2 _ e1.symm
        rw [hRi.tag] at this
        cases this
    · show Sl _ _ _ _ _ _ (upd A.hv k u k) _ ((List.range (ch k + 1)).map fun j => ptr ((if k = k then upd (A.ha k) (ch k) hb else A.ha k) j))
      rw [upd_same, if_pos rfl, List.range_succ, List.map_append, List.map_singleton, upd_same]
      have e1 : ((List.range (ch k)).map fun j => ptr (upd (A.ha k) (ch k) hb j)) = (List.range (ch k)).map fun j => ptr (A.ha k j) := List.map_congr_left fun j hj => by
        have := List.mem_range.1 hj
        rw [upd_other _ _ (by omega)]
      rw [e1]
      refine ⟨⟨hown.1, ?_⟩, fun g' hg' => ?_⟩
      · rcases hown.2 with ⟨h2, _⟩ | ⟨g2, cap2, cur, h2, h3, h4, h5⟩
        · cases h2
        · cases h2
          exact .inr ⟨g, cap, cur, hu, h3, (Go.Deep.blk_setCell_other _ _ _ _ hne).trans h4, h5⟩
      · rw [hu] at hg'
        cases hg'
        exact put1_same _ _ _
    · show _ = _ ∧ HObj _ ((if k = k then upd (A.ha k) (ch k) hb else A.ha k) j) _ _ _ _ _
      show put1 _ _ _ ((if k = k then upd (A.ha k) (ch k) hb else A.ha k) j) = _ ∧ HObj _ ((if k = k then upd (A.ha k) (ch k) hb else A.ha k) j) _ _ _ _ _
      rw [if_pos rfl]
      by_cases e2 : j = ch k
      · subst e2
        rw [upd_same]
        have ht5 : put1 lab hb (1, 5, k) hb = some (1, 5, k) := put1_same _ _ _
        exact ⟨a3 _ _ ht5, hO.of_block (a2 _ _ ht5 ⟨by simp, by simp⟩).2⟩
      · rw [upd_other _ _ e2]
        obtain ⟨b1, b2⟩ := hRi.hobj j (by omega)
        exact ⟨a3 _ _ b1, b2.of_block (a2 _ _ b1 ⟨by simp, by simp⟩).2⟩
  · rw [upd_other _ _ e]
    refine ((hR1.recs k hk).growT a2 ⟨by simp, by simpa using e⟩ ⟨by simpa using e, by simp⟩ ⟨by simp, by simp⟩ ⟨by simp, by simp⟩).adr rfl rfl rfl (upd_other _ _ e) rfl (fun j _ => ?_) (fun _ _ => rfl)
    show (if k = i then _ else A.ha k) j = _
    rw [if_neg e]

/-- 'q := &request{..}', 'rec.waiting = append(rec.waiting, q)' -/
theorem RS.appWait (h : RS I w0 lab w A psB mbB tsB rsB B ks vs n K ch cw q s f kk vv wt rqv wtv) {i : Nat} (hi : i + 1 = K) (hq : q = I.D.off i + cw i) (hfull : ∀ k, k < i → cw k = (I.R k).nw) {W1 : World} (ht : Touch (fun _ => False) w W1) {qb : Nat} (hb1 : w.heap.size ≤ qb) (hb2 : qb < W1.heap.size)
    (hO : QObj W1 qb (A.ta (I.D.qt i (cw i))) (-7)) {w2 : World} {g cap : Nat} (hg : W1.grownBy w2 (A.wv i).ownBlock) (hat : (A.wv i).ownBlock = some g ∨ g = W1.heap.size) (hlt : g < w2.heap.size)
    (hown : w2.ownsRow w0.heap.size 78 1 (.slice (some ⟨g, 0, none⟩) (cw i + 1) cap) (cw i + 1) (((List.range (cw i)).map fun j => ptr (A.qa (I.D.off i + j))) ++ [ptr qb])) {u : Value} (hu : u = .slice (some ⟨g, 0, none⟩) (cw i + 1) cap) :
    ∃ lab' A', A'.pa = A.pa ∧ A'.ta = A.ta ∧ A'.ra = A.ra ∧ A'.qa q = qb ∧ Free lab lab' w (w2.setCell ⟨A.ra i, 10, none⟩ u) ∧ RS I w0 lab' (w2.setCell ⟨A.ra i, 10, none⟩ u) A' psB mbB tsB rsB B ks vs n K ch (upd cw i (cw i + 1)) q s f kk vv wt rqv wtv := by
  have hG1 : Grow lab (put1 lab qb (5, q, 0)) (fun _ => True) w W1 := Grow.put1 (Same.none h.labs ht _) (h.labs.fresh hb1) _
  have hL1 : Labs w0 W1 (put1 lab qb (5, q, 0)) := h.labs.put1 (h.labs.touch0 ht).bel ht.size _ hb1 hb2
  have hR1 := h.growAll hL1 hG1
  have hF1 : Free lab (put1 lab qb (5, q, 0)) w W1 := fun c hc hcl => ⟨by rw [put1_other _ (by omega)]; exact hc, ht.block c hcl id⟩
  have hik : i < K := by omega
  have hRi := hR1.recs i hik
  obtain ⟨a1, a2, a3, a4⟩ := app_grow (i := 10) hL1 hRi.wait (Touch.refl _ W1) hg hat hlt hRi.tag u hu
  have hne : g ≠ A.ra i := by
    rcases hat with h2 | h2
    · exact tag_ne (hRi.wait.2 g h2) hRi.tag (by simp)
    · have := hL1.lt _ _ hRi.tag
      omega
  have hF : Free lab (put1 (put1 lab qb (5, q, 0)) g (1, 6, i)) w (w2.setCell ⟨A.ra i, 10, none⟩ u) := fun c hc hcl =>
    ⟨(a4 c (hF1 c hc hcl).1 (Nat.lt_of_lt_of_le hcl ht.size)).1, (a4 c (hF1 c hc hcl).1 (Nat.lt_of_lt_of_le hcl ht.size)).2.trans (hF1 c hc hcl).2⟩
  obtain ⟨p1, p2, p3, p4, p5⟩ := hR1.part a2 (fun _ => ⟨by simp, by simp⟩) ⟨by simp, by simp⟩ ⟨by simp, by simp⟩ ⟨by simp, by simp⟩ (fun x hx => ⟨(by rintro rfl; cases hx), (by rintro rfl; cases hx)⟩) (fun x hx => ⟨(by rintro rfl; cases hx), (by rintro rfl; cases hx)⟩)
  have hoff : ∀ k, k < i → ∀ j, j < cw k → I.D.off k + j ≠ q := fun k hk j hj => by
    have h1 : I.D.off (k + 1) ≤ I.D.off i := I.D.off_le hk
    have h2 : I.D.off (k + 1) = I.D.off k + (I.R k).nw := rfl
    have h3 := hfull k hk
    omega
  refine ⟨_, { A with qa := upd A.qa q qb, wv := upd A.wv i u }, rfl, rfl, rfl, upd_same _ _ _, hF, a1, ⟨p1.tps, p1.rps, p1.tmb, p1.rmb, p1.pages⟩, p2, p3, p4, p5, a3 _ _ hR1.trs, hR1.rrs.of_block (a2 _ _ hR1.trs ⟨by simp, by simp⟩).2, fun k hk => ?_, fun k hk j hj => ?_, ?_, hR1.want.growT a2 ⟨by simp, by simp⟩⟩
  · by_cases e : k = i
    · subst e
      rw [upd_same]
      refine ⟨a3 _ _ hRi.tag, ?_, hRi.held.growT a2 ⟨by simp, by simp⟩, fun j hj => ⟨a3 _ _ (hRi.hobj j hj).1, (hRi.hobj j hj).2.of_block (a2 _ _ (hRi.hobj j hj).1 ⟨by simp, by simp⟩).2⟩, ?_⟩
      · show RObj _ (A.ra k) _ _ _ _ (upd A.wv k u k)
        rw [upd_same]
        refine RObj.set10 (wv := A.wv k) (hRi.obj.of_block ?_) u
        exact hg.block _ (hL1.lt _ _ hRi.tag) fun e1 => by
          have := hRi.wait.2 _ e1.symm
          rw [hRi.tag] at this
          cases this
      · show Sl _ _ _ _ _ _ (upd A.wv k u k) _ ((List.range (cw k + 1)).map fun j => ptr (upd A.qa q qb (I.D.off k + j)))
        rw [upd_same, List.range_succ, List.map_append, List.map_singleton, ← hq, upd_same]
        have e1 : ((List.range (cw k)).map fun j => ptr (upd A.qa q qb (I.D.off k + j))) = (List.range (cw k)).map fun j => ptr (A.qa (I.D.off k + j)) := List.map_congr_left fun j hj => by
          have := List.mem_range.1 hj
          rw [upd_other _ _ (by omega)]
        rw [e1]
        refine ⟨⟨hown.1, ?_⟩, fun g' hg' => ?_⟩
        · rcases hown.2 with ⟨h2, _⟩ | ⟨g2, cap2, cur, h2, h3, h4, h5⟩
          · cases h2
          · cases h2
            exact .inr ⟨g, cap, cur, hu, h3, (Go.Deep.blk_setCell_other _ _ _ _ hne).trans h4, h5⟩
        · rw [hu] at hg'
          cases hg'
          exact put1_same _ _ _
    · rw [upd_other _ _ e]
      refine ((hR1.recs k hk).growT a2 ⟨by simp, by simpa using e⟩ ⟨by simp, by simp⟩ ⟨by simp, by simp⟩ ⟨by simpa using e, by simp⟩).adr rfl rfl rfl rfl (upd_other _ _ e) (fun _ _ => rfl) (fun j hj => ?_)
      exact upd_other _ _ (hoff k (by omega) j hj)
  · show _ = _ ∧ QObj _ (upd A.qa q qb _) _ _
    show put1 _ _ _ (upd A.qa q qb (I.D.off k + j)) = _ ∧ QObj _ (upd A.qa q qb (I.D.off k + j)) _ _
    by_cases e : k = i
    · subst e
      rw [upd_same] at hj
      by_cases e2 : j = cw k
      · subst e2
        rw [← hq, upd_same]
        have ht5 : put1 lab qb (5, q, 0) qb = some (5, q, 0) := put1_same _ _ _
        exact ⟨a3 _ _ ht5, hO.of_block (a2 _ _ ht5 ⟨by simp, by simp⟩).2⟩
      · rw [upd_other _ _ (by omega)]
        obtain ⟨b1, b2⟩ := hR1.reqo k hk j (by omega)
        exact ⟨a3 _ _ b1, b2.of_block (a2 _ _ b1 ⟨by simp, by simp⟩).2⟩
    · rw [upd_other _ _ e] at hj
      rw [upd_other _ _ (hoff k (by omega) j hj)]
      obtain ⟨b1, b2⟩ := hR1.reqo k hk j hj
      exact ⟨a3 _ _ b1, b2.of_block (a2 _ _ b1 ⟨by simp, by simp⟩).2⟩
  · show Sl _ _ _ _ _ _ _ _ ((List.range q).map fun g => ptr (upd A.qa q qb g))
    have e1 : ((List.range q).map fun g => ptr (upd A.qa q qb g)) = (List.range q).map fun g => ptr (A.qa g) := List.map_congr_left fun j hj => by
      have := List.mem_range.1 hj
      rw [upd_other _ _ (by omega)]
    rw [e1]
    exact hR1.reqs.growT a2 ⟨by simp, by simp⟩
end
end Go.Proofs.Ybulkeyzg
