import Derived.Test.YbulkeyzgD12
namespace Go.Proofs.Ybulkeyzg
open Go.RowKit

/-! ### how many keys a transaction can have -/
theorem keepT_len (τ : TS) (k : Key) (heap : Int) (nw : Bool) (b : Int) : (keepT τ k heap nw b).kv.length ≤ τ.kv.length + 1 := by
  unfold keepT
  split
  · omega
  · exact (put_len _ _ _).1
theorem Dat.hN_len (D : Dat) (i : Nat) (σ : Nat → TS) {n : Nat} (h : Few n σ) : ∀ j, Few (n + j) (D.hN i σ j)
  | 0 => h
  | j + 1 => fun t => by
    have ih := Dat.hN_len D i σ h j
    show (D.hStep i j (D.hN i σ j) t).kv.length ≤ n + (j + 1)
    unfold Dat.hStep
    split
    · have := ih t; omega
    · by_cases e : t = D.ht i j
      · subst e
        rw [upd_same]
        have := keepT_len (D.hN i σ j (D.ht i j)) (D.key i j) (D.R i).heap ((D.R i).nw == 0) (D.b i)
        have := ih (D.ht i j)
        omega
      · rw [upd_other _ _ e]
        have := ih t; omega
theorem Dat.wN_len (D : Dat) (i : Nat) (σ : Nat → TS) {n : Nat} (h : Few n σ) : ∀ j, Few n (D.wN i σ j)
  | 0 => h
  | j + 1 => fun t => by
    have ih := Dat.wN_len D i σ h j
    show (upd (D.wN i σ j) (D.qt i j) (newT (D.wN i σ j (D.qt i j)) (D.b i)) t).kv.length ≤ n
    by_cases e : t = D.qt i j
    · subst e
      rw [upd_same]
      exact ih (D.qt i j)
    · rw [upd_other _ _ e]
      exact ih t
theorem Dat.N_len (D : Dat) (σ : Nat → TS) {n : Nat} (h : Few n σ) : ∀ i, Few (n + D.sHeld i) (D.N σ i)
  | 0 => h
  | i + 1 => by
    have ih := Dat.N_len D σ h i
    have := D.wN_len i _ (D.hN_len i _ ih (D.R i).nh) (D.R i).nw
    intro t
    have := this t
    show _ ≤ n + (D.sHeld i + (D.R i).nh)
    show (D.wN i (D.hN i (D.N σ i) (D.R i).nh) (D.R i).nw t).kv.length ≤ _
    omega
theorem sums (I : Inp) : ∀ i, I.D.sHeld i + I.D.off i = sumN (fun i => (I.R i).nh + (I.R i).nw) i
  | 0 => rfl
  | i + 1 => by
    have := sums I i
    show I.D.sHeld i + (I.R i).nh + (I.D.off i + (I.R i).nw) = sumN _ i + ((I.R i).nh + (I.R i).nw)
    omega
theorem σ0_len (I : Inp) (hnb : ∀ i, i < I.lt → (I.T i).nb ≤ 4096) : Few 4096 I.σ0 := fun t => by
  unfold Inp.σ0
  split
  · rename_i h
    exact Nat.le_trans (I.kvN_len t _) (hnb t h)
  · exact Nat.zero_le _
theorem rh (I : Inp) (w0 : World) (hA : I.At w0) (hF : I.Fine) (hlt : I.lt ≤ 4096) (hlr : I.lr ≤ 4096) (htot : tot I I.lr ≤ 4096) {i : Nat} (hi : i < I.lr) : RH I w0 i (I.D.N I.σ0 i) (I.D.outs I.σ0 i) := by
  have hnb : ∀ i, i < I.lt → (I.T i).nb ≤ 4096 := fun i hi => by
    have : (I.T i).nb ≤ sumN (fun i => (I.T i).nb) I.lt := sumN_le (f := fun i => (I.T i).nb) hi
    unfold tot at htot
    omega
  have h1 : (I.R i).nh + (I.R i).nw ≤ sumN (fun i => (I.R i).nh + (I.R i).nw) I.lr := sumN_le (f := fun i => (I.R i).nh + (I.R i).nw) hi
  have h2 := sumN_mono (f := fun i => (I.R i).nh + (I.R i).nw) (Nat.le_of_lt hi)
  have h3 := sums I i
  unfold tot at htot
  refine ⟨hA, hF, hlt, hi, hlr, by omega, by omega, by omega, fun j hj t => ?_, by rw [I.D.outs_len]; omega⟩
  have := I.D.hN_len i _ (I.D.N_len _ (σ0_len I hnb) i) j t
  omega

def HD10 (I : Inp) (w0 : World) (psB mbB tsB rsB : Nat) (B : MB) (i : Nat) (rqv wtv : Value) (w : World) : Prop :=
  ∃ lab A ks vs, RS I w0 lab w A psB mbB tsB rsB B ks vs i i (NH I) (NW I) (I.D.off i) (fun t => (I.D.N I.σ0 i t).s) (fun t => (I.D.N I.σ0 i t).f) (fun t => (I.D.N I.σ0 i t).kv) (fun t => (I.D.N I.σ0 i t).kv) (I.D.outs I.σ0 i) rqv wtv
def I10 (I : Inp) (w0 : World) (psB mbB tsB rsB : Nat) (B : MB) (a : Act) (w : World) : Prop := ∃ (i : Nat) (rqv wtv : Value), i ≤ I.lr ∧ Lv3 I psB mbB tsB rsB B i rqv wtv a ∧ HD10 I w0 psB mbB tsB rsB B i rqv wtv w
def M10 (I : Inp) (w0 : World) (psB mbB tsB rsB : Nat) (B : MB) (a : Act) (w : World) : Prop := ∃ (rqv wtv : Value), Lv3 I psB mbB tsB rsB B I.lr rqv wtv a ∧ HD10 I w0 psB mbB tsB rsB B I.lr rqv wtv w

set_option maxRecDepth 100000 in
set_option maxHeartbeats 4000000 in
/-- region 65: 'i++' -/
theorem x65 (I : Inp) (w0 : World) (psB mbB tsB rsB : Nat) (B : MB) (i inB ra : Nat) (hil : i < I.lr) (hlr : I.lr ≤ 4096) (Q : Exit → Act → World → Prop) (a : Act) (w : World) (h : F10 I w0 psB mbB tsB rsB B i inB ra (I.D.N I.σ0 i) (I.D.outs I.σ0 i) a w)
    (hQ : ∀ a' w' rqv wtv, Lv3 I psB mbB tsB rsB B (i + 1) rqv wtv a' → HD10 I w0 psB mbB tsB rsB B (i + 1) rqv wtv w' → Q .normal a' w') :
    Code.wp Yba.prog (nav [1, 1, 1, 1, 1, 1, 1, 1, 1, 1, 1, 1, 1, 1, 1, 1, 1, 1, 1, 1, 1, 0, 1, 0, 0, 1, 1] (Yba.f3.body.getD .skip)) Q a w := by
  obtain ⟨rqv, wtv, hL, lab, A, ks, vs, hra, hM⟩ := h
  have HM : Hid (HD10 I w0 psB mbB tsB rsB B (i + 1) rqv wtv w) := by
    refine ⟨lab, A, ks, vs, ?_⟩
    have := hM.rs
    rw [upd_id (f := NH I) (i := i) (v := (I.R i).nh) rfl, upd_id (f := NW I) (i := i) (v := (I.R i).nw) rfl] at this
    exact this
  clear hM hra
  obtain ⟨x, rfl, hx⟩ := act_fr a hL.size hL.defers
  have e0 := hx _ _ hL.s0
  have e1 := hx _ _ hL.s1
  have e2 := hx _ _ hL.s2
  have e10 := hx _ _ hL.s10
  have e11 := hx _ _ hL.s11
  have e12 := hx _ _ hL.s12
  have e17 := hx _ _ hL.s17
  have e18 := hx _ _ hL.s18
  have e19 := hx _ _ hL.s19
  have e20 := hx _ _ hL.s20
  have e21 := hx _ _ hL.s21
  have e22 := hx _ _ hL.s22
  have e29 := hx _ _ hL.s29
  have e30 := hx _ _ hL.s30
  have e31 := hx _ _ hL.s31
  have e32 := hx _ _ hL.s32
  clear hx hL
  simp only [fr, Nat.reduceAdd, e0, e1, e2, e10, e11, e12, e17, e18, e19, e20, e21, e22, e29, e30, e31, e32]
  clear e0 e1 e2 e10 e11 e12 e17 e18 e19 e20 e21 e22 e29 e30 e31 e32
  conv => arg 2; whnf
  go_wp2_with fail
  exact hQ _ _ rqv wtv ⟨⟨⟨⟨rfl, rfl, rfl, rfl, rfl⟩, rfl, rfl, rfl⟩, rfl, rfl, rfl, rfl, rfl, rfl⟩, rfl, rfl, rfl, rfl⟩ HM.out

set_option maxRecDepth 100000 in
set_option maxHeartbeats 4000000 in
theorem loop10 (I : Inp) (w0 : World) (hA : I.At w0) (hF : I.Fine) (hlp : I.lp ≤ 4096) (hlt : I.lt ≤ 4096) (hlr : I.lr ≤ 4096) (htot : tot I I.lr ≤ 4096) (psB mbB tsB rsB : Nat) (B : MB) (Q : Exit → Act → World → Prop) (K : Act → World → Prop) (hK : ∀ a w, M10 I w0 psB mbB tsB rsB B a w → K a w) (a : Act) (w : World) (h : I10 I w0 psB mbB tsB rsB B a w) :
    Code.wp Yba.prog (nav [1, 1, 1, 1, 1, 1, 1, 1, 1, 1, 1, 1, 1, 1, 1, 1, 1, 1, 1, 1, 1, 0, 1] (Yba.f3.body.getD .skip)) (Exit.then K Q) a w := by
  refine wp_block_loop K (I10 I w0 psB mbB tsB rsB B) (fun a _ => I.lr - (intOf (a.tmps.getD 32 undef)).toNat) h ?_
  clear h a w
  intro a w h
  obtain ⟨i, rqv, wtv, hi, hL, lab, A, ks, vs, hR⟩ := h
  obtain ⟨x, rfl, hx⟩ := act_fr a hL.size hL.defers
  have e0 := hx _ _ hL.s0
  have e1 := hx _ _ hL.s1
  have e2 := hx _ _ hL.s2
  have e10 := hx _ _ hL.s10
  have e11 := hx _ _ hL.s11
  have e12 := hx _ _ hL.s12
  have e17 := hx _ _ hL.s17
  have e18 := hx _ _ hL.s18
  have e19 := hx _ _ hL.s19
  have e20 := hx _ _ hL.s20
  have e21 := hx _ _ hL.s21
  have e22 := hx _ _ hL.s22
  have e29 := hx _ _ hL.s29
  have e30 := hx _ _ hL.s30
  have e31 := hx _ _ hL.s31
  have e32 := hx _ _ hL.s32
  clear hx hL
  have hAw := hA.below hR.labs.bel
  have HR : Hid (RS I w0 lab w A psB mbB tsB rsB B ks vs i i (NH I) (NW I) (I.D.off i) (fun t => (I.D.N I.σ0 i t).s) (fun t => (I.D.N I.σ0 i t).f) (fun t => (I.D.N I.σ0 i t).kv) (fun t => (I.D.N I.σ0 i t).kv) (I.D.outs I.σ0 i) rqv wtv) := hR
  clear hR
  have hnp0 := I.D_fine.np
  have hnp : I.D.np ≤ 4096 := by show (if I.lp = 0 then 1 else I.lp) ≤ 4096; split <;> omega
  obtain ⟨np, hnpe⟩ : ∃ np, np = I.D.np := ⟨_, rfl⟩
  obtain ⟨nt, hnte⟩ : ∃ nt, nt = I.D.nt := ⟨_, rfl⟩
  have HNP : Hid (np = I.D.np ∧ nt = I.D.nt) := ⟨hnpe, hnte⟩
  rw [← hnpe] at e10 e11 e12 hnp hnp0
  rw [← hnte] at e17 e18 e19 e20 e21 e22
  clear hnpe hnte
  by_cases hil : i < I.lr
  · have hI : (i : Int) < I.lr := by omega
    have HIL : Hid (i < I.lr ∧ I.lr ≤ 4096) := ⟨hil, hlr⟩
    have HRH : Hid (RH I w0 i (I.D.N I.σ0 i) (I.D.outs I.σ0 i)) := rh I w0 hA hF hlt hlr htot hil
    obtain ⟨b, off, hp, hb, c0, c1, c2, c3, c4⟩ := hAw.recs i hil
    have f0 := hF.rpg i hil
    have HP : Hid (I.p2 = some ⟨b, off, none⟩) := hp
    rw [hp] at e2
    obtain ⟨pg, hpgE⟩ : ∃ pg, pg = (I.R i).pg := ⟨_, rfl⟩
    obtain ⟨hh, hhE⟩ : ∃ hh, hh = (I.R i).heap := ⟨_, rfl⟩
    obtain ⟨sp, hspE⟩ : ∃ sp, sp = (I.R i).sup := ⟨_, rfl⟩
    obtain ⟨ha, nh, hc, hv3E⟩ : ∃ ha nh hc, Value.slice ha nh hc = Value.slice (I.hA i) (I.R i).nh (I.hc i) := ⟨_, _, _, rfl⟩
    obtain ⟨wa, nw, wc, hv4E⟩ : ∃ wa nw wc, Value.slice wa nw wc = Value.slice (I.wA i) (I.R i).nw (I.wc i) := ⟨_, _, _, rfl⟩
    have HE : Hid (pg = (I.R i).pg ∧ [Value.int .u8 pg, .int .i64 hh, .bool sp, .slice ha nh hc, .slice wa nw wc] = inL I i) := ⟨hpgE, by unfold inL; rw [hpgE, hhE, hspE, hv3E, hv4E]⟩
    rw [← hpgE] at c0 f0
    rw [← hhE] at c1
    rw [← hspE] at c2
    rw [← hv3E] at c3
    rw [← hv4E] at c4
    clear hpgE hhE hspE hv3E hv4E hp hAw
    obtain ⟨pp, hppE⟩ : ∃ pp, pp = pg % np := ⟨_, rfl⟩
    have HPP : Hid (pp = pg % np) := hppE
    have hmod : (pg : Int) % (np : Int) = (pp : Int) := by rw [hppE]; rfl
    have hnp' : ¬ np = 0 := by omega
    clear hppE
    simp only [fr, Nat.reduceAdd, e0, e1, e2, e10, e11, e12, e17, e18, e19, e20, e21, e22, e29, e30, e31, e32]
    clear e0 e1 e2 e10 e11 e12 e17 e18 e19 e20 e21 e22 e29 e30 e31 e32
    go_upto_region 68 with fail
    rename_i K11 hK11 K68 hK68
    clear c0 c1 c2 c3 c4
    have hTin : Tmp lab (w.alloc (.cells #[.int .u8 pg, .int .i64 hh, .bool sp, .slice ha nh hc, .slice wa nw wc] 31)) w.heap.size (inL I i) := by
      rw [← HE.out.2]
      exact Tmp.new HR.out.labs _ _
    have hT1 : Touch (fun _ => False) w (w.alloc (.cells #[.int .u8 pg, .int .i64 hh, .bool sp, .slice ha nh hc, .slice wa nw wc] 31)) := (Touch.refl _ _).alloc _
    have hR1 := HR.out.touch0 hT1
    generalize w.alloc (.cells #[.int .u8 pg, .int .i64 hh, .bool sp, .slice ha nh hc, .slice wa nw wc] 31) = W at *
    generalize w.heap.size = inB at *
    refine x2 I w0 psB mbB tsB rsB B i inB (I.D.N I.σ0 i) (I.D.outs I.σ0 i) rqv wtv _ K68 W lab A ks vs hR1 hTin ?_ _ ?_ ?_ ?_
    · intro a' W' h1 h2 h3 h4
      refine hK68 _ _ ?_
      refine x3 I w0 psB mbB tsB rsB B i inB W.heap.size (I.D.N I.σ0 i) (I.D.outs I.σ0 i) HRH.out rqv wtv _ ?_ lab A ks vs W hR1 hTin W' h1 (Nat.le_refl _) h2 h3 a' h4
      intro a2 w2 hF10
      refine hK11 _ _ ?_
      refine x65 I w0 psB mbB tsB rsB B i inB W.heap.size HIL.out.1 HIL.out.2 _ a2 w2 hF10 ?_
      intro a3 w3 rqv' wtv' hL3 hH
      refine ⟨⟨i + 1, rqv', wtv', HIL.out.1, hL3, hH⟩, ?_⟩
      have hz : ∀ (a : Act) (v : Value), a.tmps[32]? = some v → a.tmps.getD 32 undef = v := fun a v h => by rw [Array.getD_eq_getD_getElem?, h]; rfl
      have := HIL.out.1
      show I.lr - (intOf (a3.tmps.getD 32 undef)).toNat < I.lr - (intOf (.int .i64 (i : Int))).toNat
      rw [hz _ _ hL3.s32]
      simp only [intOf, Int.toNat_natCast]
      omega
    · exact ⟨⟨⟨⟨rfl, rfl, rfl, rfl, by rw [HP.out]; rfl⟩, by rw [← HNP.out.1]; rfl, by rw [← HNP.out.1]; rfl, by rw [← HNP.out.1]; rfl⟩, by rw [← HNP.out.2]; rfl, by rw [← HNP.out.2]; rfl, by rw [← HNP.out.2]; rfl, by rw [← HNP.out.2]; rfl, by rw [← HNP.out.2]; rfl, by rw [← HNP.out.2]; rfl⟩, rfl, rfl, rfl, rfl⟩
    · rfl
    · show some _ = some (Value.int .i64 (((I.R i).pg % I.D.np : Nat) : Int))
      rw [← HE.out.1, ← HNP.out.1]
      rfl
  · have hI : ¬ (i : Int) < I.lr := by omega
    have : i = I.lr := by omega
    subst this
    simp only [fr, Nat.reduceAdd, e0, e1, e2, e10, e11, e12, e17, e18, e19, e20, e21, e22, e29, e30, e31, e32]
    clear e0 e1 e2 e10 e11 e12 e17 e18 e19 e20 e21 e22 e29 e30 e31 e32
    go_wp2_with fail
    exact ⟨rqv, wtv, ⟨⟨⟨⟨rfl, rfl, rfl, rfl, rfl⟩, by rw [← HNP.out.1]; rfl, by rw [← HNP.out.1]; rfl, by rw [← HNP.out.1]; rfl⟩, by rw [← HNP.out.2]; rfl, by rw [← HNP.out.2]; rfl, by rw [← HNP.out.2]; rfl, by rw [← HNP.out.2]; rfl, by rw [← HNP.out.2]; rfl, by rw [← HNP.out.2]; rfl⟩, rfl, rfl, rfl, rfl⟩, lab, A, ks, vs, HR.out⟩
end Go.Proofs.Ybulkeyzg
