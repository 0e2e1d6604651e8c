import Derived.Test.YbulkeyzgB12
namespace Go.Proofs.Ybulkeyzg
open Go.RowKit

set_option maxRecDepth 100000 in
set_option maxHeartbeats 4000000 in
theorem p57 (I : Inp) (w0 : World) (hlp : I.lp ≤ 4096) (hlt : I.lt ≤ 4096) (psB mbB tsB : Nat) (B : MB) (i j ta bb kb : Nat) (hil : i < I.lt) (hjl : j < (I.T i).nb) (hnb : (I.T i).nb ≤ 4096) (Q : Exit → Act → World → Prop) (hQ : ∀ a w, F5 I w0 psB mbB tsB B i j ta a w → Q .normal a w) (a : Act) (w : World)
    (hL : Lv5 I psB mbB tsB B i j ta bb kb a) (lab : Lab) (A : Adr) (ks vs : Nat → Value) (l : List Value) (hS : S5 I w0 lab w A psB mbB tsB B ks vs i ta bb kb (upd (fun t => (I.σi i j t).kv) i (I.kvN i j ++ [(I.bkey i j, (I.T i).b j)])) (fun t => (I.σi i j t).kv) (I.σi i j) (I.σi i (j + 1)) (I.bkey i j) ((I.T i).b j) l) (hq : idx (I.bkey i j) (I.kvN i j) = none) :
    Code.wp Yba.prog (nav [1, 1, 1, 1, 1, 1, 1, 1, 1, 1, 1, 1, 1, 1, 1, 1, 1, 0, 1, 0, 0, 1, 0, 0, 1, 0, 1, 0, 1, 1, 1, 1, 1, 0, 0, 1, 0, 0, 1, 1, 1, 1, 1, 0, 1] (Yba.f3.body.getD .skip)) Q a w := by
  obtain ⟨x, rfl, hx⟩ := act_fr a hL.size hL.defers
  have e0 := hx _ _ hL.s0
  have e1 := hx _ _ hL.s1
  have e2 := hx _ _ hL.s2
  have e10 := hx _ _ hL.s10
  have e11 := hx _ _ hL.s11
  have e12 := hx _ _ hL.s12
  have e17 := hx _ _ hL.s17
  have e18 := hx _ _ hL.s18
  have e19 := hx _ _ hL.s19
  have e20 := hx _ _ hL.s20
  have e21 := hx _ _ hL.s21
  have e22 := hx _ _ hL.s22
  have e23 := hx _ _ hL.s23
  have e24 := hx _ _ hL.s24
  have e25 := hx _ _ hL.s25
  have e26 := hx _ _ hL.s26
  have e27 := hx _ _ hL.s27
  clear hx hL
  unfold ptr at e24 e26 e27
  have hnp : I.D.np ≤ 4096 := by show (if I.lp = 0 then 1 else I.lp) ≤ 4096; split <;> omega
  have hnp0 := I.D_fine.np
  have hnt : I.D.nt ≤ 4096 := by show (if I.lt = 0 then 1 else I.lt) ≤ 4096; split <;> omega
  have hint : i < I.D.nt := by show i < (if I.lt = 0 then 1 else I.lt); split <;> omega
  obtain ⟨np, hnpe⟩ : ∃ np, np = I.D.np := ⟨_, rfl⟩
  obtain ⟨nt, hnte⟩ : ∃ nt, nt = I.D.nt := ⟨_, rfl⟩
  have HNP : Hid (np = I.D.np ∧ nt = I.D.nt) := ⟨hnpe, hnte⟩
  rw [← hnpe] at e10 e11 e12 hnp hnp0
  rw [← hnte] at e17 e18 e19 e20 e21 e22 hnt hint
  clear hnpe hnte
  have hI : (i : Int) < I.lt := by omega
  have hI2 : (i : Int) < nt := by omega
  obtain ⟨hq2, hq3⟩ := idx_none hq
  have hti : i < I.D.nt := by rw [← HNP.out.2]; exact hint
  have hv := hS.tg.mod.vals i hti
  have hkv := I.σi_kv i j
  simp only [hkv] at hv
  have c0 := hS.tg.mod.r3.cell (i := i) hti
  have z0 := hS.tg.mod.r3.frozen i
  have hvl := hS.tg.mod.r3.lt
  have c3 := hS.tb.cell 3 (.int .i64 ((I.T i).b j)) (by rw [List.getElem?_append_right (by rw [hS.l3]; omega), hS.l3]; rfl)
  have hbl := hS.tb.lt
  have hlen := I.kvN_len i j
  obtain ⟨z, hz⟩ : ∃ z, z = (I.T i).b j := ⟨_, rfl⟩
  obtain ⟨v, hve⟩ : ∃ v, v = vs i := ⟨_, rfl⟩
  obtain ⟨kv, hkve⟩ : ∃ kv, kv = I.kvN i j := ⟨_, rfl⟩
  have HE : Hid (z = (I.T i).b j ∧ v = vs i ∧ kv = I.kvN i j) := ⟨hz, hve, hkve⟩
  rw [← hz] at c3
  rw [← hve] at c0 hv
  rw [← hkve] at hv hlen
  have HS : Hid (S5 I w0 lab w A psB mbB tsB B ks vs i ta bb kb (upd (fun t => (I.σi i j t).kv) i (I.kvN i j ++ [(I.bkey i j, (I.T i).b j)])) (fun t => (I.σi i j t).kv) (I.σi i j) (I.σi i (j + 1)) (I.bkey i j) ((I.T i).b j) l) := hS
  have HQ : Hid (∀ v, put (I.bkey i j) v (I.kvN i j) = I.kvN i j ++ [(I.bkey i j, v)]) := hq3
  have HOwn : Hid (w.ownsRow w0.heap.size 3 1 v kv.length (valsL kv) ∧ ∀ g, v.ownBlock = some g → lab g = some (3, 5, i)) := hv
  have hbase : w0.heap.size ≤ w.heap.size := hS.tg.labs.bel.size
  have HNV : Hid (lab B.vb = some (3, 3, 0) ∧ lab bb = none) := ⟨hS.tg.mod.t3, hS.tb.tag⟩
  have hl5 : kv.length ≤ 100000 := by omega
  have HFin : Hid (∀ (W1 w' : World) (g cap : Nat), Touch (fun _ => False) w W1 → w'.ownsRow w0.heap.size 3 1 (.slice (some ⟨g, 0, none⟩) (kv.length + 1) cap) (kv.length + 1) (valsL kv ++ [.int .i64 z]) → W1.grownBy w' v.ownBlock → (v.ownBlock = some g ∨ g = W1.heap.size) → g < w'.heap.size →
      TGS I w0 (w'.setCell ⟨B.vb, i, none⟩ (.slice (some ⟨g, 0, none⟩) (kv.length + 1) cap)) psB mbB tsB B i (i + 1) ta (I.σi i (j + 1)) (I.σi i (j + 1))) := by
    intro W1 w' g cap h1 h2 h3 h4 h5
    have hk2 : kv = (I.σi i j i).kv := by rw [hkv, hkve]
    subst hve
    rw [hk2] at h2 ⊢
    obtain ⟨lab', a0, a1, a2, a3⟩ := hS.tg.mod.appV hS.tg.labs hti (I.bkey i j, z) h1 h3 h2 h4 h5 rfl
    have hG := hS.tg.mod3 a1 a2 a3
    rw [← hS.ta]
    refine fin5 hG (fun t ht => ?_) (fun t ht => ?_)
    · by_cases e : t = i
      · subst e
        rw [upd_same, I.σi_kv]
        show _ = keysL (put _ _ _) ∧ _ = (put _ _ _).length
        rw [hq3]
        exact ⟨rfl, rfl⟩
      · rw [upd_other _ _ e, I.σi_succ, upd_other _ _ e]
        exact ⟨rfl, rfl⟩
    · by_cases e : t = i
      · subst e
        rw [upd_same, I.σi_kv, I.σi_kv]
        show _ = put _ _ _
        rw [hq3, hz]
      · rw [upd_other _ _ e, I.σi_succ, upd_other _ _ e]
  clear hS hq hq2 hq3 hv hkv hz hve hkve
  simp only [fr, Nat.reduceAdd, e0, e1, e2, e10, e11, e12, e17, e18, e19, e20, e21, e22, e23, e24, e25, e26, e27]
  clear e0 e1 e2 e10 e11 e12 e17 e18 e19 e20 e21 e22 e23 e24 e25 e26 e27
  conv => arg 2; whnf
  have hC : ∀ (o : Obj) (k : Nat), k < w.heap.size → (w.drew.alloc o).heap[k]? = w.heap[k]? := fun o k hk => Go.Deep.blk_alloc_lt w.drew o k hk
  have hn1 : some B.vb ≠ v.ownBlock := fun e => by have := HOwn.out.2 _ e.symm; rw [HNV.out.1] at this; cases this
  refine wp_region_noPanic ?_
  go_region_law (refine step_appI 298 301 rfl rfl _ w0.heap.size v kv.length (valsL kv) z w.heap.size (HOwn.out.1.drew.alloc _) hl5 (by simp; omega) (Go.Deep.blk_alloc_new _ _) (by simp [Act.eval]) (by simp [Act.eval]) ?_; intro g cap w' hown hgr hat hgl; have y0 := (World.cell?_of_block (a := ⟨B.vb, i, none⟩) ((hgr.block B.vb (by simp; omega) hn1).trans (hC _ _ hvl))).trans c0; have x0 := (World.frozen?_of_block (a := ⟨B.vb, i, none⟩) ((hgr.block B.vb (by simp; omega) hn1).trans (hC _ _ hvl))).trans z0)
  all_goals
    refine hQ _ _ ⟨⟨⟨⟨rfl, rfl, rfl, rfl, rfl⟩, by rw [← HNP.out.1]; rfl, by rw [← HNP.out.1]; rfl, by rw [← HNP.out.1]; rfl⟩, by rw [← HNP.out.2]; rfl, by rw [← HNP.out.2]; rfl, by rw [← HNP.out.2]; rfl, by rw [← HNP.out.2]; rfl, by rw [← HNP.out.2]; rfl, by rw [← HNP.out.2]; rfl⟩, rfl, rfl, rfl, ?_⟩
    exact HFin.out _ _ _ _ (by first | exact ((Touch.refl _ _).drew).alloc _ | exact ((Touch.refl _ _).alloc _).drew) hown hgr hat hgl
end Go.Proofs.Ybulkeyzg
