import Derived.Test.YbulkeyzgB17
namespace Go.Proofs.Ybulkeyzg
open Go.RowKit

def I6 (I : Inp) (w0 : World) (psB mbB tsB : Nat) (B : MB) (a : Act) (w : World) : Prop := Lv2 I psB mbB tsB B a ∧ ∃ i ta : Nat, i ≤ I.D.nt ∧ a.tmps[23]? = some (.int .i64 i) ∧ TGS I w0 w psB mbB tsB B i i ta (I.σh i) (I.σh i)
def M6 (I : Inp) (w0 : World) (psB mbB tsB : Nat) (B : MB) (a : Act) (w : World) : Prop := Lv2 I psB mbB tsB B a ∧ ∃ ta, TGS I w0 w psB mbB tsB B I.D.nt I.D.nt ta (I.σh I.D.nt) (I.σh I.D.nt)

theorem upd_id {α : Type} {f : Nat → α} {i : Nat} {v : α} (h : f i = v) : upd f i v = f := by
  funext j
  unfold upd
  by_cases e : j = i
  · rw [if_pos e, e, h]
  · rw [if_neg e]
theorem upd_upd {α : Type} (f : Nat → α) (i : Nat) (u v : α) : upd (upd f i u) i v = upd f i v := by
  funext j
  unfold upd
  by_cases e : j = i
  · rw [if_pos e, if_pos e]
  · rw [if_neg e, if_neg e, if_neg e]
theorem Inp.σh_self (I : Inp) (i : Nat) : I.σh i i = ⟨0, 0, []⟩ := if_neg (by omega)
theorem Inp.σi_end (I : Inp) {i : Nat} (h : i < I.lt) : I.σi i (I.T i).nb = I.σh (i + 1) := by
  funext t
  unfold Inp.σi Inp.σh
  by_cases e : t = i
  · subst e
    rw [upd_same, if_pos (by omega)]
    unfold Inp.σ0
    rw [if_pos h]
  · rw [upd_other _ _ e]
    by_cases e2 : t < i
    · rw [if_pos e2, if_pos (by omega)]
    · rw [if_neg e2, if_neg (by omega)]
theorem Inp.σh_out (I : Inp) {i : Nat} (h : ¬ i < I.lt) : I.σh i = I.σh (i + 1) := by
  funext t
  unfold Inp.σh
  by_cases e : t < i
  · rw [if_pos e, if_pos (by omega)]
  · rw [if_neg e]
    by_cases e2 : t < i + 1
    · rw [if_pos e2]
      have : t = i := by omega
      subst this
      unfold Inp.σ0
      rw [if_neg h]
    · rw [if_neg e2]

theorem TG.congrM {I : Inp} {w0 w : World} {lab : Lab} {A : Adr} {psB mbB tsB : Nat} {B : MB} {ks vs : Nat → Value} {n m : Nat} {s f s' f' : Nat → Int} {kk vv kk' vv' : Nat → KV} {σ : Nat → TS} (h : TG I w0 lab w A psB mbB tsB B ks vs n m s f kk vv σ)
    (h1 : s = s') (h2 : f = f') (h3 : kk = kk') (h4 : vv = vv') : TG I w0 lab w A psB mbB tsB B ks vs n m s' f' kk' vv' σ := by
  subst h1; subst h2; subst h3; subst h4; exact h

theorem mkmap (w : World) : (Instr.makeMap 46 none).run Yba.prog w = .ok (.map (some w.heap.size)) (w.alloc (.map #[] 0)) := by
  simp [Instr.makeMap]

set_option maxRecDepth 100000 in
set_option maxHeartbeats 4000000 in
theorem loop6 (I : Inp) (w0 : World) (hA : I.At w0) (hF : I.Fine) (hlp : I.lp ≤ 4096) (hlt : I.lt ≤ 4096) (hnb : ∀ i, i < I.lt → (I.T i).nb ≤ 4096) (psB mbB tsB : Nat) (B : MB) (Q : Exit → Act → World → Prop) (K : Act → World → Prop) (hK : ∀ a w, M6 I w0 psB mbB tsB B a w → K a w) (a : Act) (w : World) (h : I6 I w0 psB mbB tsB B a w) :
    Code.wp Yba.prog (nav [1, 1, 1, 1, 1, 1, 1, 1, 1, 1, 1, 1, 1, 1, 1, 1, 1, 0, 1] (Yba.f3.body.getD .skip)) (Exit.then K Q) a w := by
  refine wp_block_loop K (I6 I w0 psB mbB tsB B) (fun a _ => I.D.nt - (intOf (a.tmps.getD 23 undef)).toNat) h ?_
  clear h a w
  intro a w h
  obtain ⟨hL, i, ta0, hi, e23, lab, A, ks, vs, hta, hG⟩ := h
  obtain ⟨x, rfl, hx⟩ := act_fr a hL.size hL.defers
  have e0 := hx _ _ hL.s0
  have e1 := hx _ _ hL.s1
  have e2 := hx _ _ hL.s2
  have e10 := hx _ _ hL.s10
  have e11 := hx _ _ hL.s11
  have e12 := hx _ _ hL.s12
  have e17 := hx _ _ hL.s17
  have e18 := hx _ _ hL.s18
  have e19 := hx _ _ hL.s19
  have e20 := hx _ _ hL.s20
  have e21 := hx _ _ hL.s21
  have e22 := hx _ _ hL.s22
  replace e23 := hx _ _ e23
  clear hx hL
  have HG : Hid (TG I w0 lab w A psB mbB tsB B ks vs i i (fun t => (I.σh i t).s) (fun t => (I.σh i t).f) (fun t => (I.σh i t).kv) (fun t => (I.σh i t).kv) (I.σh i)) := hG
  clear hG hta
  have hnp : I.D.np ≤ 4096 := by show (if I.lp = 0 then 1 else I.lp) ≤ 4096; split <;> omega
  have hnt : I.D.nt ≤ 4096 := by show (if I.lt = 0 then 1 else I.lt) ≤ 4096; split <;> omega
  obtain ⟨np, hnpe⟩ : ∃ np, np = I.D.np := ⟨_, rfl⟩
  obtain ⟨nt, hnte⟩ : ∃ nt, nt = I.D.nt := ⟨_, rfl⟩
  have HNP : Hid (np = I.D.np ∧ nt = I.D.nt) := ⟨hnpe, hnte⟩
  rw [← hnpe] at e10 e11 e12 hnp
  rw [← hnte] at e17 e18 e19 e20 e21 e22 hnt hi
  clear hnpe hnte
  by_cases hin : i < nt
  · have hI2 : (i : Int) < nt := by omega
    have hti : i < I.D.nt := by rw [← HNP.out.2]; exact hin
    simp only [fr, Nat.reduceAdd, e0, e1, e2, e10, e11, e12, e17, e18, e19, e20, e21, e22, e23]
    clear e0 e1 e2 e10 e11 e12 e17 e18 e19 e20 e21 e22 e23
    have hmm := mkmap
    go_upto_region 43 with fail
    clear hmm
    obtain ⟨lab', A', hpa, hta1, hma1, hG1⟩ := HG.out.make (Nat.le_refl _) #[Value.int IntKind.i64 (i + 1), Value.pointer none, Value.bool false, Value.int IntKind.i64 0, Value.pointer none, Value.int IntKind.i64 0, Value.int IntKind.i64 0, Value.slice none 0 0, Value.slice none 0 0, Value.int IntKind.i64 0, Value.int IntKind.i64 0, Value.map (some w.heap.size), Value.map none] rfl rfl rfl rfl rfl
    rw [upd_id (I.σh_self i)] at hG1
    clear HG
    generalize World.alloc _ _ = W1 at *
    have HG1 : Hid (TG I w0 lab' W1 A' psB mbB tsB B ks vs i (i + 1) (fun t => (I.σh i t).s) (fun t => (I.σh i t).f) (fun t => (I.σh i t).kv) (fun t => (I.σh i t).kv) (I.σh i)) := hG1
    have HTA : Hid (A'.ta i = w.heap.size + 1) := hta1
    generalize w.heap.size + 1 = ta at *
    clear hG1 hta1 hma1 hpa
    by_cases hil : i < I.lt
    · have hI : (i : Int) < I.lt := by omega
      obtain ⟨b, off, hp, hb, c0, c1, -⟩ := (hA.below HG1.out.labs.bel).trxs i hil
      have HP : Hid (I.p1 = some ⟨b, off, none⟩) := hp
      have HBW : Hid (w0.heap.size ≤ W1.heap.size ∧ b < w0.heap.size) := by
        obtain ⟨b', off', hp', hb', _⟩ := hA.trxs i hil
        rw [hp] at hp'
        cases hp'
        exact ⟨HG1.out.labs.bel.size, hb'⟩
      rw [hp]
      clear hp
      obtain ⟨ht1, ht2, hTO, -⟩ := HG1.out.trx i (by omega)
      rw [HTA.out] at ht1 hTO
      have hTT : ∀ (W : World) (v : Value) (o : Nat), ∃ _ : True, Touch (fun b => b = A'.ta i ∨ b = A'.ma i) W (W.setCell ⟨ta, o, none⟩ v) := fun W v o => ⟨trivial, Touch.setCell (S := fun b => b = A'.ta i ∨ b = A'.ma i) (Touch.refl _ _) (.inl (.inl (by rw [HTA.out]))) _⟩
      have HTT : Hid (∀ (W : World) (v : Value) (o : Nat), ∃ _ : True, Touch (fun b => b = A'.ta i ∨ b = A'.ma i) W (W.setCell ⟨ta, o, none⟩ v)) := hTT
      clear hTT
      have HNE : Hid (w0.heap.size ≤ ta ∧ w0.heap.size ≤ B.ms ∧ w0.heap.size ≤ B.mf) := ⟨HG1.out.labs.ge _ _ ht1, HG1.out.labs.ge _ _ HG1.out.mod.t0, HG1.out.labs.ge _ _ HG1.out.mod.t1⟩
      obtain ⟨s, hs⟩ : ∃ s, s = (I.T i).s := ⟨_, rfl⟩
      obtain ⟨f, hf⟩ : ∃ f, f = (I.T i).f := ⟨_, rfl⟩
      have HE : Hid (s = (I.T i).s ∧ f = (I.T i).f) := ⟨hs, hf⟩
      rw [← hs] at c0
      rw [← hf] at c1
      clear hs hf ht1 ht2
      obtain ⟨g, o1, o9, o10, -⟩ := hTO.obj
      have d9 := o1.cell (i := 9) (by omega)
      have z9 := o1.frozen 9
      rw [o9] at d9
      clear o1 o9 o10
      go_upto_region 45 with fail
      have hG2 : TG I w0 lab' (W1.setCell ⟨ta, 9, none⟩ (.int .i64 s)) A' psB mbB tsB B ks vs i (i + 1) (fun t => (I.σh i t).s) (fun t => (I.σh i t).f) (fun t => (I.σh i t).kv) (fun t => (I.σh i t).kv) (upd (I.σh i) i ⟨s, 0, []⟩) := by
        refine HG1.out.turn (by omega) ?_ (fun e he => by cases he) (HTT.out _ _ _).2
        have := hTO.setS s
        rw [I.σh_self] at this
        rw [HTA.out]
        exact this
      have HG2 : Hid (TG I w0 lab' (W1.setCell ⟨ta, 9, none⟩ (.int .i64 s)) A' psB mbB tsB B ks vs i (i + 1) (fun t => (I.σh i t).s) (fun t => (I.σh i t).f) (fun t => (I.σh i t).kv) (fun t => (I.σh i t).kv) (upd (I.σh i) i ⟨s, 0, []⟩)) := hG2
      clear hG2 hTO d9 z9 c0 c1 HG1 hb
      generalize W1.setCell ⟨ta, 9, none⟩ (.int .i64 s) = W2 at *
      obtain ⟨b2, off2, hp2, hb2, -, c1, -⟩ := (hA.below HG2.out.labs.bel).trxs i hil
      rw [HP.out] at hp2
      cases hp2
      rw [← HE.out.2] at c1
      obtain ⟨-, -, hTO, -⟩ := HG2.out.trx i (by omega)
      rw [HTA.out, upd_same] at hTO
      obtain ⟨g2, o1, -, o10, -⟩ := hTO.obj
      have d10 := o1.cell (i := 10) (by omega)
      have z10 := o1.frozen 10
      rw [o10] at d10
      clear o1 o10
      go_upto_region 46 with fail
      have hG3 : TG I w0 lab' (W2.setCell ⟨ta, 10, none⟩ (.int .i64 f)) A' psB mbB tsB B ks vs i (i + 1) (fun t => (I.σh i t).s) (fun t => (I.σh i t).f) (fun t => (I.σh i t).kv) (fun t => (I.σh i t).kv) (upd (I.σh i) i ⟨s, f, []⟩) := by
        have := HG2.out.turn (t := i) (by omega) (τ := ⟨s, f, []⟩) (by rw [HTA.out]; exact hTO.setF f) (fun e he => by cases he) (HTT.out W2 (.int .i64 f) 10).2
        rw [upd_upd] at this
        exact this
      have HG3 : Hid (TG I w0 lab' (W2.setCell ⟨ta, 10, none⟩ (.int .i64 f)) A' psB mbB tsB B ks vs i (i + 1) (fun t => (I.σh i t).s) (fun t => (I.σh i t).f) (fun t => (I.σh i t).kv) (fun t => (I.σh i t).kv) (upd (I.σh i) i ⟨s, f, []⟩)) := hG3
      clear hG3 hTO d10 z10 c1 HG2 hb2
      generalize W2.setCell ⟨ta, 10, none⟩ (.int .i64 f) = W3 at *
      obtain ⟨b2, off2, hp2, hb2, c0, -, -⟩ := (hA.below HG3.out.labs.bel).trxs i hil
      rw [HP.out] at hp2
      cases hp2
      rw [← HE.out.1] at c0
      have m0 := HG3.out.mod.r0.cell (i := i) hti
      have n0 := HG3.out.mod.r0.frozen i
      go_upto_region 47 with fail
      have hG4 : TG I w0 lab' (W3.setCell ⟨B.ms, i, none⟩ (.int .i64 s)) A' psB mbB tsB B ks vs i (i + 1) (upd (fun t => (I.σh i t).s) i s) (fun t => (I.σh i t).f) (fun t => (I.σh i t).kv) (fun t => (I.σh i t).kv) (upd (I.σh i) i ⟨s, f, []⟩) := by
        have hT : Touch (InG lab' 3) W3 (W3.setCell ⟨B.ms, i, none⟩ (.int .i64 s)) := Touch.setCell (Touch.refl _ _) (.inl ⟨_, HG3.out.mod.t0, rfl⟩) _
        exact HG3.out.mod3 (HG3.out.labs.touchG hT) (Grow.of_same (Same.group HG3.out.labs hT)) (HG3.out.mod.setS i s)
      have HG4 : Hid (TG I w0 lab' (W3.setCell ⟨B.ms, i, none⟩ (.int .i64 s)) A' psB mbB tsB B ks vs i (i + 1) (upd (fun t => (I.σh i t).s) i s) (fun t => (I.σh i t).f) (fun t => (I.σh i t).kv) (fun t => (I.σh i t).kv) (upd (I.σh i) i ⟨s, f, []⟩)) := hG4
      clear hG4 m0 n0 c0 HG3 hb2
      generalize W3.setCell ⟨B.ms, i, none⟩ (.int .i64 s) = W4 at *
      obtain ⟨b2, off2, hp2, hb2, -, c1, -⟩ := (hA.below HG4.out.labs.bel).trxs i hil
      rw [HP.out] at hp2
      cases hp2
      rw [← HE.out.2] at c1
      have m1 := HG4.out.mod.r1.cell (i := i) hti
      have n1 := HG4.out.mod.r1.frozen i
      go_upto_region 48 with fail
      have HG5 : Hid (TG I w0 lab' (W4.setCell ⟨B.mf, i, none⟩ (.int .i64 f)) A' psB mbB tsB B ks vs i (i + 1) (fun t => (I.σi i 0 t).s) (fun t => (I.σi i 0 t).f) (fun t => (I.σi i 0 t).kv) (fun t => (I.σi i 0 t).kv) (I.σi i 0)) := by
        have hT : Touch (InG lab' 3) W4 (W4.setCell ⟨B.mf, i, none⟩ (.int .i64 f)) := Touch.setCell (Touch.refl _ _) (.inl ⟨_, HG4.out.mod.t1, rfl⟩) _
        have hG5 := HG4.out.mod3 (HG4.out.labs.touchG hT) (Grow.of_same (Same.group HG4.out.labs hT)) (HG4.out.mod.setF i f)
        have hσ : upd (I.σh i) i ⟨s, f, []⟩ = I.σi i 0 := by unfold Inp.σi; rw [HE.out.1, HE.out.2]; rfl
        rw [hσ] at hG5
        refine hG5.congrM ?_ ?_ ?_ ?_
        · funext t
          by_cases e : t = i
          · rw [e, upd_same, ← hσ, upd_same]
          · rw [upd_other _ _ e, ← hσ, upd_other _ _ e]
        · funext t
          by_cases e : t = i
          · rw [e, upd_same, ← hσ, upd_same]
          · rw [upd_other _ _ e, ← hσ, upd_other _ _ e]
        · funext t
          by_cases e : t = i
          · rw [e, ← hσ, upd_same, I.σh_self]
          · rw [← hσ, upd_other _ _ e]
        · funext t
          by_cases e : t = i
          · rw [e, ← hσ, upd_same, I.σh_self]
          · rw [← hσ, upd_other _ _ e]
      clear m1 n1 c1 HG4 hb2 HTT HNE HBW
      generalize W4.setCell ⟨B.mf, i, none⟩ (.int .i64 f) = W5 at *
      go_upto_block 8 with fail
      refine loop5 I w0 hA hF hlp hlt psB mbB tsB B i ta hil (hnb i hil) _ _ ?_ _ _ ⟨⟨⟨⟨rfl, rfl, rfl, by rw [HP.out]; rfl, rfl⟩, by rw [← HNP.out.1]; rfl, by rw [← HNP.out.1]; rfl, by rw [← HNP.out.1]; rfl⟩, by rw [← HNP.out.2]; rfl, by rw [← HNP.out.2]; rfl, by rw [← HNP.out.2]; rfl, by rw [← HNP.out.2]; rfl, by rw [← HNP.out.2]; rfl, by rw [← HNP.out.2]; rfl⟩, rfl, rfl, 0, Nat.zero_le _, rfl, lab', A', ks, vs, HTA.out, HG5.out⟩
      clear HG5
      intro a w hM5
      obtain ⟨hL, e23, e24, lab2, A2, ks', vs', hta2, hG⟩ := hM5
      rw [I.σi_end hil] at hG
      have HT : Hid (TG I w0 lab2 w A2 psB mbB tsB B ks' vs' i (i + 1) (fun t => (I.σh (i + 1) t).s) (fun t => (I.σh (i + 1) t).f) (fun t => (I.σh (i + 1) t).kv) (fun t => (I.σh (i + 1) t).kv) (I.σh (i + 1))) := hG
      have HTA2 : Hid (A2.ta i = ta) := hta2
      clear hG hta2
      obtain ⟨x', rfl, hx⟩ := act_fr a hL.size hL.defers
      have e0 := hx _ _ hL.s0
      have e1 := hx _ _ hL.s1
      have e2 := hx _ _ hL.s2
      have e10 := hx _ _ hL.s10
      have e11 := hx _ _ hL.s11
      have e12 := hx _ _ hL.s12
      have e17 := hx _ _ hL.s17
      have e18 := hx _ _ hL.s18
      have e19 := hx _ _ hL.s19
      have e20 := hx _ _ hL.s20
      have e21 := hx _ _ hL.s21
      have e22 := hx _ _ hL.s22
      replace e23 := hx _ _ e23
      replace e24 := hx _ _ e24
      clear hx hL
      unfold ptr at e24
      rw [← HNP.out.1] at e10 e11 e12
      rw [← HNP.out.2] at e17 e18 e19 e20 e21 e22
      simp only [fr, Nat.reduceAdd, e0, e1, e2, e10, e11, e12, e17, e18, e19, e20, e21, e22, e23, e24]
      clear e0 e1 e2 e10 e11 e12 e17 e18 e19 e20 e21 e22 e23 e24
      have c0 := HT.out.rts.cell (i := i) hti
      have z0 := HT.out.rts.frozen i
      go_wp2_with fail
      refine ⟨⟨⟨⟨⟨rfl, rfl, rfl, rfl, rfl⟩, by rw [← HNP.out.1]; rfl, by rw [← HNP.out.1]; rfl, by rw [← HNP.out.1]; rfl⟩, by rw [← HNP.out.2]; rfl, by rw [← HNP.out.2]; rfl, by rw [← HNP.out.2]; rfl, by rw [← HNP.out.2]; rfl, by rw [← HNP.out.2]; rfl, by rw [← HNP.out.2]; rfl⟩, i + 1, A2.ta (i + 1), by rw [← HNP.out.2]; omega, rfl, lab2, A2, ks', vs', rfl, ?_⟩, ?_⟩
      · have := HT.out.setTs
        rw [HTA2.out] at this
        exact this
      · show I.D.nt - (intOf (.int .i64 ((i : Int) + 1))).toNat < I.D.nt - (intOf (.int .i64 (i : Int))).toNat
        rw [← HNP.out.2]
        simp [intOf]
        omega
    · have hI : ¬ (i : Int) < I.lt := by omega
      have HT : Hid (TG I w0 lab' W1 A' psB mbB tsB B ks vs i (i + 1) (fun t => (I.σh (i + 1) t).s) (fun t => (I.σh (i + 1) t).f) (fun t => (I.σh (i + 1) t).kv) (fun t => (I.σh (i + 1) t).kv) (I.σh (i + 1))) := by
        unfold Hid
        rw [← I.σh_out hil]
        exact HG1.out
      obtain ⟨ks', vs', hks⟩ : ∃ ks' vs', ks' = ks ∧ vs' = vs := ⟨_, _, rfl, rfl⟩
      obtain ⟨rfl, rfl⟩ := hks
      clear HG1
      have c0 := HT.out.rts.cell (i := i) hti
      have z0 := HT.out.rts.frozen i
      go_wp2_with fail
      refine ⟨⟨⟨⟨⟨rfl, rfl, rfl, rfl, rfl⟩, by rw [← HNP.out.1]; rfl, by rw [← HNP.out.1]; rfl, by rw [← HNP.out.1]; rfl⟩, by rw [← HNP.out.2]; rfl, by rw [← HNP.out.2]; rfl, by rw [← HNP.out.2]; rfl, by rw [← HNP.out.2]; rfl, by rw [← HNP.out.2]; rfl, by rw [← HNP.out.2]; rfl⟩, i + 1, A'.ta (i + 1), by rw [← HNP.out.2]; omega, rfl, lab', A', ks', vs', rfl, ?_⟩, ?_⟩
      · have := HT.out.setTs
        rw [HTA.out] at this
        exact this
      · show I.D.nt - (intOf (.int .i64 ((i : Int) + 1))).toNat < I.D.nt - (intOf (.int .i64 (i : Int))).toNat
        rw [← HNP.out.2]
        simp [intOf]
        omega
  · have hI2 : ¬ (i : Int) < nt := by omega
    have hie : i = nt := by omega
    subst hie
    simp only [fr, Nat.reduceAdd, e0, e1, e2, e10, e11, e12, e17, e18, e19, e20, e21, e22, e23]
    clear e0 e1 e2 e10 e11 e12 e17 e18 e19 e20 e21 e22 e23
    go_wp2_with fail
    refine ⟨⟨⟨⟨rfl, rfl, rfl, rfl, rfl⟩, by rw [← HNP.out.1]; rfl, by rw [← HNP.out.1]; rfl, by rw [← HNP.out.1]; rfl⟩, by rw [← HNP.out.2]; rfl, by rw [← HNP.out.2]; rfl, by rw [← HNP.out.2]; rfl, by rw [← HNP.out.2]; rfl, by rw [← HNP.out.2]; rfl, by rw [← HNP.out.2]; rfl⟩, A.ta I.D.nt, lab, A, ks, vs, rfl, ?_⟩
    rw [← HNP.out.2]
    exact HG.out
end Go.Proofs.Ybulkeyzg
