import Derived.Test.YbulkeyzgB13
namespace Go.Proofs.Ybulkeyzg
open Go.RowKit

set_option maxRecDepth 100000 in
set_option maxHeartbeats 4000000 in
theorem p56 (I : Inp) (w0 : World) (hlp : I.lp ≤ 4096) (hlt : I.lt ≤ 4096) (psB mbB tsB : Nat) (B : MB) (i j ta bb kb : Nat) (hil : i < I.lt) (hjl : j < (I.T i).nb) (hnb : (I.T i).nb ≤ 4096) (Q : Exit → Act → World → Prop) (hQ : ∀ a w, F5 I w0 psB mbB tsB B i j ta a w → Q .normal a w) (a : Act) (w : World)
    (hL : Lv5 I psB mbB tsB B i j ta bb kb a) (lab : Lab) (A : Adr) (ks vs : Nat → Value) (l : List Value) (hS : S5 I w0 lab w A psB mbB tsB B ks vs i ta bb kb (fun t => (I.σi i j t).kv) (fun t => (I.σi i j t).kv) (I.σi i j) (I.σi i (j + 1)) (I.bkey i j) ((I.T i).b j) l) (hq : idx (I.bkey i j) (I.kvN i j) = none) :
    Code.wp Yba.prog (nav [1, 1, 1, 1, 1, 1, 1, 1, 1, 1, 1, 1, 1, 1, 1, 1, 1, 0, 1, 0, 0, 1, 0, 0, 1, 0, 1, 0, 1, 1, 1, 1, 1, 0, 0, 1, 0, 0, 1, 1, 1, 1, 1, 0] (Yba.f3.body.getD .skip)) Q a w := by
  obtain ⟨x, rfl, hx⟩ := act_fr a hL.size hL.defers
  have e0 := hx _ _ hL.s0
  have e1 := hx _ _ hL.s1
  have e2 := hx _ _ hL.s2
  have e10 := hx _ _ hL.s10
  have e11 := hx _ _ hL.s11
  have e12 := hx _ _ hL.s12
  have e17 := hx _ _ hL.s17
  have e18 := hx _ _ hL.s18
  have e19 := hx _ _ hL.s19
  have e20 := hx _ _ hL.s20
  have e21 := hx _ _ hL.s21
  have e22 := hx _ _ hL.s22
  have e23 := hx _ _ hL.s23
  have e24 := hx _ _ hL.s24
  have e25 := hx _ _ hL.s25
  have e26 := hx _ _ hL.s26
  have e27 := hx _ _ hL.s27
  clear hx hL
  unfold ptr at e24 e26 e27
  have hnp : I.D.np ≤ 4096 := by show (if I.lp = 0 then 1 else I.lp) ≤ 4096; split <;> omega
  have hnp0 := I.D_fine.np
  have hnt : I.D.nt ≤ 4096 := by show (if I.lt = 0 then 1 else I.lt) ≤ 4096; split <;> omega
  have hint : i < I.D.nt := by show i < (if I.lt = 0 then 1 else I.lt); split <;> omega
  obtain ⟨np, hnpe⟩ : ∃ np, np = I.D.np := ⟨_, rfl⟩
  obtain ⟨nt, hnte⟩ : ∃ nt, nt = I.D.nt := ⟨_, rfl⟩
  have HNP : Hid (np = I.D.np ∧ nt = I.D.nt) := ⟨hnpe, hnte⟩
  rw [← hnpe] at e10 e11 e12 hnp hnp0
  rw [← hnte] at e17 e18 e19 e20 e21 e22 hnt hint
  clear hnpe hnte
  have hI : (i : Int) < I.lt := by omega
  have hI2 : (i : Int) < nt := by omega
  obtain ⟨hq2, hq3⟩ := idx_none hq
  have hti : i < I.D.nt := by rw [← HNP.out.2]; exact hint
  have hv := hS.tg.mod.keys i hti
  have hkv := I.σi_kv i j
  simp only [hkv] at hv
  have c0 := hS.tg.mod.r2.cell (i := i) hti
  have z0 := hS.tg.mod.r2.frozen i
  have hvl := hS.tg.mod.r2.lt
  have k0 := hS.tk.cell 0 _ rfl
  have k1 := hS.tk.cell 1 _ rfl
  have k2 := hS.tk.cell 2 _ rfl
  have hkl := hS.tk.lt
  have hlen := I.kvN_len i j
  obtain ⟨v, hve⟩ : ∃ v, v = ks i := ⟨_, rfl⟩
  obtain ⟨kv, hkve⟩ : ∃ kv, kv = I.kvN i j := ⟨_, rfl⟩
  obtain ⟨k, hke⟩ : ∃ k, k = I.bkey i j := ⟨_, rfl⟩
  rw [← hke] at k0 k1 k2
  rw [← hve] at c0 hv
  rw [← hkve] at hv hlen
  have HOwn : Hid (w.ownsRow w0.heap.size 57 3 v kv.length (keysL kv) ∧ ∀ g, v.ownBlock = some g → lab g = some (3, 4, i)) := hv
  have hbase : w0.heap.size ≤ w.heap.size := hS.tg.labs.bel.size
  have HNV : Hid (lab B.kb = some (3, 2, 0)) := hS.tg.mod.t2
  have hl5 : kv.length ≤ 100000 := by omega
  have HFin : Hid (∀ (W1 w' : World) (g cap : Nat), Touch (fun _ => False) w W1 → w'.ownsRow w0.heap.size 57 3 (.slice (some ⟨g, 0, none⟩) (kv.length + 1) cap) (kv.length + 1) (keysL kv ++ keyC k) → W1.grownBy w' v.ownBlock → (v.ownBlock = some g ∨ g = W1.heap.size) → g < w'.heap.size →
      ∃ lab' ks', S5 I w0 lab' (w'.setCell ⟨B.kb, i, none⟩ (.slice (some ⟨g, 0, none⟩) (kv.length + 1) cap)) A psB mbB tsB B ks' vs i ta bb kb (upd (fun t => (I.σi i j t).kv) i (I.kvN i j ++ [(I.bkey i j, (I.T i).b j)])) (fun t => (I.σi i j t).kv) (I.σi i j) (I.σi i (j + 1)) (I.bkey i j) ((I.T i).b j) l) := by
    intro W1 w' g cap h1 h2 h3 h4 h5
    have hk2 : kv = (I.σi i j i).kv := by rw [hkv, hkve]
    subst hve
    rw [hk2] at h2 ⊢
    obtain ⟨lab', a0, a1, a2, a3⟩ := hS.tg.mod.appK hS.tg.labs hti (k, (I.T i).b j) h1 h3 h2 h4 h5 rfl
    have hsz : w.heap.size ≤ (w'.setCell ⟨B.kb, i, none⟩ (.slice (some ⟨g, 0, none⟩) ((I.σi i j i).kv.length + 1) cap)).heap.size := by rw [setCell_size]; exact Nat.le_trans h1.size h3.size
    have a3' := a3.congr (kk' := (upd (fun t => (I.σi i j t).kv) i (I.kvN i j ++ [(I.bkey i j, (I.T i).b j)]))) (fun _ _ => rfl) (fun _ _ => rfl) (fun t _ => by
      by_cases e : t = i
      · rw [e, upd_same, upd_same, hkv, hke]
      · rw [upd_other _ _ e, upd_other _ _ e]) (fun _ _ => rfl)
    exact ⟨lab', _, hS.tg.mod3 a1 a2 a3', hS.ta, hS.tb.free a0 hsz, hS.l3, hS.tk.free a0 hsz⟩
  have HQN : Hid (idx (I.bkey i j) (I.kvN i j) = none) := hq
  clear hS hq hq2 hq3 hv hkv hve hkve hke
  simp only [fr, Nat.reduceAdd, e0, e1, e2, e10, e11, e12, e17, e18, e19, e20, e21, e22, e23, e24, e25, e26, e27]
  clear e0 e1 e2 e10 e11 e12 e17 e18 e19 e20 e21 e22 e23 e24 e25 e26 e27
  conv => arg 2; whnf
  have hC : ∀ (o : Obj) (k : Nat), k < w.heap.size → (w.drew.alloc o).heap[k]? = w.heap[k]? := fun o k hk => Go.Deep.blk_alloc_lt w.drew o k hk
  have hn1 : some B.kb ≠ v.ownBlock := fun e => by have := HOwn.out.2 _ e.symm; rw [HNV.out] at this; cases this
  refine wp_seq ?_
  refine wp_region_noPanic ?_
  go_region_law (refine step_appK 288 290 rfl rfl _ w0.heap.size v kv k w.heap.size (HOwn.out.1.drew.alloc _) hl5 (by simp; omega) (Go.Deep.blk_alloc_new _ _) (by simp [Act.eval]) (by simp [Act.eval]) ?_; intro g cap w' hown hgr hat hgl; have y0 := (World.cell?_of_block (a := ⟨B.kb, i, none⟩) ((hgr.block B.kb (by simp; omega) hn1).trans (hC _ _ hvl))).trans c0; have x0 := (World.frozen?_of_block (a := ⟨B.kb, i, none⟩) ((hgr.block B.kb (by simp; omega) hn1).trans (hC _ _ hvl))).trans z0)
  all_goals
    obtain ⟨lab', ks', hS'⟩ := HFin.out _ _ _ _ (by first | exact ((Touch.refl _ _).drew).alloc _ | exact ((Touch.refl _ _).alloc _).drew) hown hgr hat hgl
    exact p57 I w0 hlp hlt psB mbB tsB B i j ta bb kb hil hjl hnb Q hQ _ _ ⟨⟨⟨⟨rfl, rfl, rfl, rfl, rfl⟩, by rw [← HNP.out.1]; rfl, by rw [← HNP.out.1]; rfl, by rw [← HNP.out.1]; rfl⟩, by rw [← HNP.out.2]; rfl, by rw [← HNP.out.2]; rfl, by rw [← HNP.out.2]; rfl, by rw [← HNP.out.2]; rfl, by rw [← HNP.out.2]; rfl, by rw [← HNP.out.2]; rfl⟩, rfl, rfl, rfl, rfl, rfl⟩ lab' A ks' vs l hS' HQN.out
end Go.Proofs.Ybulkeyzg
