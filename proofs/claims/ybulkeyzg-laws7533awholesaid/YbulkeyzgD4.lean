import Derived.Test.YbulkeyzgD3
namespace Go.Proofs.Ybulkeyzg
open Go.RowKit

set_option maxRecDepth 100000 in
set_option maxHeartbeats 4000000 in
/-- regions 99 to 104 -/
theorem p99 (I : Inp) (w0 : World) (psB mbB tsB rsB : Nat) (B : MB) (i inB ra j t kB : Nat) (htn : t < I.D.nt) (k : Key) (σ : Nat → TS) (hF : Few 100000 σ) (wt : List Int) (rqv wtv : Value)
    (lab : Lab) (A : Adr) (ks vs : Nat → Value) (w : World) (hra : A.ra i = ra) (hTk : Tmp lab w kB (keyC k)) (s f : Nat → Int) (hsf : ∀ u, u ≠ t → s u = (σ u).s ∧ f u = (σ u).f) (nb : Int) (σ' : Nat → TS) (hσ : σ' = upd σ t ⟨s t, f t, put k (mx (get k (σ t).kv) nb) (σ t).kv⟩) (hM : MS I w0 lab w A psB mbB tsB rsB B ks vs i inB s f (fun t => (σ t).kv) (fun t => (σ t).kv) wt rqv wtv)
    (a : Act) (hL : LvR I psB mbB tsB rsB B i inB ra rqv wtv a) (e40 : a.tmps[40]? = some (.int .i64 j)) (e42 : a.tmps[42]? = some (.int .i64 t)) (e44 : a.tmps[44]? = some (ptr kB)) (e45 : a.tmps[45]? = some (.int .i64 (ixV (idx k (σ t).kv)))) (e46 : a.tmps[46]? = some (.int .i64 (get k (σ t).kv))) (e47 : a.tmps[47]? = some (.int .i64 nb)) (Q : Exit → Act → World → Prop) (hQ : ∀ a w, F16 I w0 psB mbB tsB rsB B i inB ra j σ' wt rqv wtv a w → Q .normal a w) :
    Code.wp Yba.prog (nav [1, 1, 1, 1, 1, 1, 1, 1, 1, 1, 1, 1, 1, 1, 1, 1, 1, 1, 1, 1, 1, 0, 1, 0, 0, 1, 0, 0, 1, 1, 1, 1, 1, 1, 1, 0, 1, 0, 0, 1, 0, 0, 1, 1, 1, 1, 1, 1, 1, 1, 1, 1, 1] (Yba.f3.body.getD .skip)) Q a w := by
  obtain ⟨x, rfl, hx⟩ := act_fr a hL.size hL.defers
  have e0 := hx _ _ hL.s0
  have e1 := hx _ _ hL.s1
  have e2 := hx _ _ hL.s2
  have e10 := hx _ _ hL.s10
  have e11 := hx _ _ hL.s11
  have e12 := hx _ _ hL.s12
  have e17 := hx _ _ hL.s17
  have e18 := hx _ _ hL.s18
  have e19 := hx _ _ hL.s19
  have e20 := hx _ _ hL.s20
  have e21 := hx _ _ hL.s21
  have e22 := hx _ _ hL.s22
  have e29 := hx _ _ hL.s29
  have e30 := hx _ _ hL.s30
  have e31 := hx _ _ hL.s31
  have e32 := hx _ _ hL.s32
  have e33 := hx _ _ hL.s33
  have e34 := hx _ _ hL.s34
  have e35 := hx _ _ hL.s35
  replace e40 := hx _ _ e40
  replace e42 := hx _ _ e42
  replace e44 := hx _ _ e44
  replace e45 := hx _ _ e45
  replace e46 := hx _ _ e46
  replace e47 := hx _ _ e47
  clear hx hL
  unfold ptr at e33 e35 e44
  obtain ⟨cur, hcur⟩ : ∃ cur, cur = get k (σ t).kv := ⟨_, rfl⟩
  have HC : Hid (cur = get k (σ t).kv) := hcur
  rw [← hcur] at e46
  clear hcur
  have HH : Hid (MS I w0 lab w A psB mbB tsB rsB B ks vs i inB s f (fun t => (σ t).kv) (fun t => (σ t).kv) wt rqv wtv ∧ (∀ u, u ≠ t → s u = (σ u).s ∧ f u = (σ u).f) ∧ Tmp lab w kB (keyC k) ∧ σ' = upd σ t ⟨s t, f t, put k (mx (get k (σ t).kv) nb) (σ t).kv⟩) := ⟨hM, hsf, hTk, hσ⟩
  clear hM hsf hTk hσ
  have hLit : ∀ z, z = mx (get k (σ t).kv) nb → σ' = upd σ t ⟨s t, f t, put k z (σ t).kv⟩ := fun z hz => by rw [hz]; exact HH.out.2.2.2
  have HLit : Hid (∀ z, z = mx (get k (σ t).kv) nb → σ' = upd σ t ⟨s t, f t, put k z (σ t).kv⟩) := hLit
  clear hLit
  cases hi : idx k (σ t).kv with
  | none =>
    rw [hi] at e45
    have HI : Hid (idx k (σ t).kv = none) := hi
    clear hi
    simp only [ixV] at e45
    simp only [fr, Nat.reduceAdd, e0, e1, e2, e10, e11, e12, e17, e18, e19, e20, e21, e22, e29, e30, e31, e32, e33, e34, e35, e40, e42, e44, e45, e46, e47]
    clear e0 e1 e2 e10 e11 e12 e17 e18 e19 e20 e21 e22 e29 e30 e31 e32 e33 e34 e35 e40 e42 e44 e45 e46 e47
    conv => arg 2; whnf
    by_cases hlt : nb < cur
    · have HZ : Hid (cur = mx (get k (σ t).kv) nb) := by unfold Hid mx; rw [← HC.out, if_neg (by omega)]
      go_upto_if 505 with fail
      refine wp_cond_true rfl ?_
      exact p102 I w0 psB mbB tsB rsB B i inB ra j t htn k cur s f σ hF wt rqv wtv σ' (HLit.out _ HZ.out) HH.out.2.1 lab A ks vs w hra kB HH.out.2.2.1 HH.out.1 HI.out _ ⟨⟨⟨⟨rfl, rfl, rfl, rfl, rfl⟩, rfl, rfl, rfl⟩, rfl, rfl, rfl, rfl, rfl, rfl⟩, rfl, rfl, rfl, rfl, rfl, rfl, rfl⟩ rfl rfl rfl rfl Q hQ
    · have HZ : Hid (nb = mx (get k (σ t).kv) nb) := by
        unfold Hid mx
        rw [← HC.out]
        split <;> omega
      go_upto_if 505 with fail
      refine wp_cond_true rfl ?_
      exact p102 I w0 psB mbB tsB rsB B i inB ra j t htn k nb s f σ hF wt rqv wtv σ' (HLit.out _ HZ.out) HH.out.2.1 lab A ks vs w hra kB HH.out.2.2.1 HH.out.1 HI.out _ ⟨⟨⟨⟨rfl, rfl, rfl, rfl, rfl⟩, rfl, rfl, rfl⟩, rfl, rfl, rfl, rfl, rfl, rfl⟩, rfl, rfl, rfl, rfl, rfl, rfl, rfl⟩ rfl rfl rfl rfl Q hQ
  | some q =>
    rw [hi] at e45
    have HI : Hid (idx k (σ t).kv = some q) := hi
    clear hi
    simp only [ixV] at e45
    have hq0 : ¬ (q : Int) < 0 := by omega
    simp only [fr, Nat.reduceAdd, e0, e1, e2, e10, e11, e12, e17, e18, e19, e20, e21, e22, e29, e30, e31, e32, e33, e34, e35, e40, e42, e44, e45, e46, e47]
    clear e0 e1 e2 e10 e11 e12 e17 e18 e19 e20 e21 e22 e29 e30 e31 e32 e33 e34 e35 e40 e42 e44 e45 e46 e47
    conv => arg 2; whnf
    by_cases hlt : nb < cur
    · have HZ : Hid (cur = mx (get k (σ t).kv) nb) := by unfold Hid mx; rw [← HC.out, if_neg (by omega)]
      go_upto_if 505 with fail
      refine wp_cond_false rfl ?_
      exact p104 I w0 psB mbB tsB rsB B i inB ra j t q htn k cur s f σ hF wt rqv wtv σ' (HLit.out _ HZ.out) HH.out.2.1 lab A ks vs w hra HH.out.1 HI.out _ ⟨⟨⟨⟨rfl, rfl, rfl, rfl, rfl⟩, rfl, rfl, rfl⟩, rfl, rfl, rfl, rfl, rfl, rfl⟩, rfl, rfl, rfl, rfl, rfl, rfl, rfl⟩ rfl rfl rfl rfl Q hQ
    · have HZ : Hid (nb = mx (get k (σ t).kv) nb) := by
        unfold Hid mx
        rw [← HC.out]
        split <;> omega
      go_upto_if 505 with fail
      refine wp_cond_false rfl ?_
      exact p104 I w0 psB mbB tsB rsB B i inB ra j t q htn k nb s f σ hF wt rqv wtv σ' (HLit.out _ HZ.out) HH.out.2.1 lab A ks vs w hra HH.out.1 HI.out _ ⟨⟨⟨⟨rfl, rfl, rfl, rfl, rfl⟩, rfl, rfl, rfl⟩, rfl, rfl, rfl, rfl, rfl, rfl⟩, rfl, rfl, rfl, rfl, rfl, rfl, rfl⟩ rfl rfl rfl rfl Q hQ
end Go.Proofs.Ybulkeyzg
