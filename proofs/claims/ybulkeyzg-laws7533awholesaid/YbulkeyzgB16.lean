import Derived.Test.YbulkeyzgB15
namespace Go.Proofs.Ybulkeyzg
open Go.RowKit

set_option maxRecDepth 100000 in
set_option maxHeartbeats 4000000 in
theorem p53 (I : Inp) (w0 : World) (hlp : I.lp ≤ 4096) (hlt : I.lt ≤ 4096) (psB mbB tsB : Nat) (B : MB) (i j ta bb kb : Nat) (hil : i < I.lt) (hjl : j < (I.T i).nb) (hnb : (I.T i).nb ≤ 4096) (Q : Exit → Act → World → Prop) (hQ : ∀ a w, F5 I w0 psB mbB tsB B i j ta a w → Q .normal a w) (a : Act) (w : World)
    (hL : Lv5 I psB mbB tsB B i j ta bb kb a) (lab : Lab) (A : Adr) (ks vs : Nat → Value) (l : List Value) (hS : S5 I w0 lab w A psB mbB tsB B ks vs i ta bb kb (fun t => (I.σi i j t).kv) (fun t => (I.σi i j t).kv) (I.σi i j) (I.σi i j) (I.bkey i j) ((I.T i).b j) l) :
    Code.wp Yba.prog (nav [1, 1, 1, 1, 1, 1, 1, 1, 1, 1, 1, 1, 1, 1, 1, 1, 1, 0, 1, 0, 0, 1, 0, 0, 1, 0, 1, 0, 1, 1, 1, 1, 1, 0, 0, 1, 0, 0, 1, 1] (Yba.f3.body.getD .skip)) Q a w := by
  obtain ⟨x, rfl, hx⟩ := act_fr a hL.size hL.defers
  have e0 := hx _ _ hL.s0
  have e1 := hx _ _ hL.s1
  have e2 := hx _ _ hL.s2
  have e10 := hx _ _ hL.s10
  have e11 := hx _ _ hL.s11
  have e12 := hx _ _ hL.s12
  have e17 := hx _ _ hL.s17
  have e18 := hx _ _ hL.s18
  have e19 := hx _ _ hL.s19
  have e20 := hx _ _ hL.s20
  have e21 := hx _ _ hL.s21
  have e22 := hx _ _ hL.s22
  have e23 := hx _ _ hL.s23
  have e24 := hx _ _ hL.s24
  have e25 := hx _ _ hL.s25
  have e26 := hx _ _ hL.s26
  have e27 := hx _ _ hL.s27
  clear hx hL
  unfold ptr at e24 e26 e27
  have hnp : I.D.np ≤ 4096 := by show (if I.lp = 0 then 1 else I.lp) ≤ 4096; split <;> omega
  have hnp0 := I.D_fine.np
  have hnt : I.D.nt ≤ 4096 := by show (if I.lt = 0 then 1 else I.lt) ≤ 4096; split <;> omega
  have hint : i < I.D.nt := by show i < (if I.lt = 0 then 1 else I.lt); split <;> omega
  obtain ⟨np, hnpe⟩ : ∃ np, np = I.D.np := ⟨_, rfl⟩
  obtain ⟨nt, hnte⟩ : ∃ nt, nt = I.D.nt := ⟨_, rfl⟩
  have HNP : Hid (np = I.D.np ∧ nt = I.D.nt) := ⟨hnpe, hnte⟩
  rw [← hnpe] at e10 e11 e12 hnp hnp0
  rw [← hnte] at e17 e18 e19 e20 e21 e22 hnt hint
  clear hnpe hnte
  have hI : (i : Int) < I.lt := by omega
  have hI2 : (i : Int) < nt := by omega
  obtain ⟨ht1, ht2, hTO, hAll⟩ := hS.tg.trx i (by omega)
  rw [hS.ta] at ht1 hTO
  obtain ⟨k, hke⟩ : ∃ k, k = I.bkey i j := ⟨_, rfl⟩
  obtain ⟨z, hz⟩ : ∃ z, z = (I.T i).b j := ⟨_, rfl⟩
  have hok : Ok I.D.np k := by rw [hke]; exact I.bkey_ok i j
  have hAp : Apart w.drew A.pa I.D.np := ⟨hS.tg.pg.pages.apart.cells, hS.tg.pg.pages.apart.inj⟩
  obtain ⟨o, ho, hm⟩ := update_run (w := w.drew) hAp hTO.map hAll hok z
  obtain ⟨V, hV⟩ : ∃ V : World, V = { w.drew with heap := w.drew.heap.setIfInBounds (A.ma i) o } := ⟨_, rfl⟩
  have hT : Touch (fun b => b = ta ∨ b = A.ma i) w V := by rw [hV]; exact ((Touch.refl _ _).drew).setObj (S := fun b => b = ta ∨ b = A.ma i) (.inl (.inr rfl)) o
  rw [← hV] at ho hm
  have hne1 := hTO.ne
  have hTV : TObj V A.pa ta (A.ma i) ⟨(I.T i).s, (I.T i).f, put k z (I.kvN i j)⟩ := by
    have hlt := hTO.lt
    obtain ⟨⟨f, o1, o2, o3, o4⟩, _⟩ := hTO
    refine ⟨⟨f, o1.of_block ?_, ?_, ?_, o4⟩, ?_⟩
    · rw [hV]
      show (w.heap.setIfInBounds (A.ma i) o)[ta]? = _
      rw [Array.getElem?_setIfInBounds_ne (Ne.symm hne1)]
    · rw [o2]; unfold Inp.σi; rw [upd_same]
    · rw [o3]; unfold Inp.σi; rw [upd_same]
    · rw [I.σi_kv] at hm; exact hm
  have hf : Free lab lab w V := Free.touch hT fun b hb => by
    rcases hb with rfl | rfl
    · rw [ht1]; simp
    · rw [ht2]; simp
  have hG : TG I w0 lab V A psB mbB tsB B ks vs i (i + 1) (fun t => (I.σi i j t).s) (fun t => (I.σi i j t).f) (fun t => (I.σi i j t).kv) (fun t => (I.σi i j t).kv) (I.σi i (j + 1)) := by
    rw [I.σi_succ, ← hke, ← hz]
    refine hS.tg.turn (by omega) (by rw [hS.ta]; exact hTV) ((I.kvN_ok i j).put hok) (by rw [hS.ta]; exact hT)
  have HS' : Hid (S5 I w0 lab V A psB mbB tsB B ks vs i ta bb kb (fun t => (I.σi i j t).kv) (fun t => (I.σi i j t).kv) (I.σi i j) (I.σi i (j + 1)) (I.bkey i j) ((I.T i).b j) l) :=
    ⟨hG, hS.ta, hS.tb.free hf hT.size, hS.l3, hS.tk.free hf hT.size⟩
  have k0 := hS.tk.cell 0 _ rfl
  have k1 := hS.tk.cell 1 _ rfl
  have k2 := hS.tk.cell 2 _ rfl
  have c3 := hS.tb.cell 3 (.int .i64 ((I.T i).b j)) (by rw [List.getElem?_append_right (by rw [hS.l3]; omega), hS.l3]; rfl)
  have y0 := HS'.out.tk.cell 0 _ rfl
  have y1 := HS'.out.tk.cell 1 _ rfl
  have y2 := HS'.out.tk.cell 2 _ rfl
  have y3 := HS'.out.tb.cell 3 (.int .i64 ((I.T i).b j)) (by rw [List.getElem?_append_right (by rw [hS.l3]; omega), hS.l3]; rfl)
  have p0 := hS.tg.pg.rps.cell (i := k.1) hok.1
  have q0 := HS'.out.tg.pg.rps.cell (i := k.1) hok.1
  rw [upto_lt _ _ hok.1] at p0 q0
  obtain ⟨f, o1, -, -, o11, -⟩ := hTO.obj
  have d11 := o1.cell (i := 11) (by omega)
  rw [o11] at d11
  obtain ⟨f', o1', -, -, o11', -⟩ := hTV.obj
  have d11' := o1'.cell (i := 11) (by omega)
  rw [o11'] at d11'
  rw [← hke] at k0 k1 k2 y0 y1 y2
  rw [← hz] at c3 y3
  unfold ptr at p0 q0
  unfold keyV at ho
  obtain ⟨p, m, q⟩ := k
  simp only at k0 k1 k2 y0 y1 y2 p0 q0 ho
  have hp0 : (0 : Int) ≤ (p : Int) := by omega
  have hp1 : (p : Int) < (np : Int) := by have := hok.1; rw [← HNP.out.1] at this; simp only at this; omega
  clear hS hTO hAll hAp hm hV hT hTV hf hG o1 o11 o1' o11' ht1 ht2 hok hke hz
  simp only [fr, Nat.reduceAdd, e0, e1, e2, e10, e11, e12, e17, e18, e19, e20, e21, e22, e23, e24, e25, e26, e27]
  clear e0 e1 e2 e10 e11 e12 e17 e18 e19 e20 e21 e22 e23 e24 e25 e26 e27
  conv => arg 2; whnf
  refine wp_seq ?_
  go_region_held3 (fun w' => w'.cell? ⟨ta, 11, none⟩ = some (.map (some (A.ma i))) ∧ w'.cell? ⟨psB, p, none⟩ = some (.pointer (some ⟨A.pa p, 0, none⟩)) ∧ w'.cell? ⟨kb, 0, none⟩ = some (.int .i64 p) ∧ w'.cell? ⟨kb, 1, none⟩ = some (.int .u8 m) ∧ w'.cell? ⟨kb, 2, none⟩ = some (.int .u8 q) ∧ w'.cell? ⟨bb, 3, none⟩ = some (.int .i64 z)) (first | exact ⟨d11, p0, k0, k1, k2, c3⟩ | exact ⟨d11', q0, y0, y1, y2, y3⟩) (fail)
  exact p54 I w0 hlp hlt psB mbB tsB B i j ta bb kb hil hjl hnb Q hQ _ _ ⟨⟨⟨⟨rfl, rfl, rfl, rfl, rfl⟩, by rw [← HNP.out.1]; rfl, by rw [← HNP.out.1]; rfl, by rw [← HNP.out.1]; rfl⟩, by rw [← HNP.out.2]; rfl, by rw [← HNP.out.2]; rfl, by rw [← HNP.out.2]; rfl, by rw [← HNP.out.2]; rfl, by rw [← HNP.out.2]; rfl, by rw [← HNP.out.2]; rfl⟩, rfl, rfl, rfl, rfl, rfl⟩ lab A ks vs l HS'.out
end Go.Proofs.Ybulkeyzg
