import Derived.Test.YbulkeyzgD5
namespace Go.Proofs.Ybulkeyzg
open Go.RowKit

set_option maxRecDepth 100000 in
set_option maxHeartbeats 4000000 in
/-- regions 94 to 104 -/
theorem p94 (I : Inp) (w0 : World) (psB mbB tsB rsB : Nat) (B : MB) (i inB ra j t kB : Nat) (htn : t < I.D.nt) (k : Key) (σ : Nat → TS) (hF : Few 100000 σ) (wt : List Int) (rqv wtv : Value)
    (lab : Lab) (A : Adr) (ks vs : Nat → Value) (w : World) (hra : A.ra i = ra) (hTk : Tmp lab w kB (keyC k)) (hM : MS I w0 lab w A psB mbB tsB rsB B ks vs i inB (fun t => (σ t).s) (fun t => (σ t).f) (fun t => (σ t).kv) (fun t => (σ t).kv) wt rqv wtv)
    (a : Act) (hL : LvR I psB mbB tsB rsB B i inB ra rqv wtv a) (e40 : a.tmps[40]? = some (.int .i64 j)) (e42 : a.tmps[42]? = some (.int .i64 t)) (e44 : a.tmps[44]? = some (ptr kB)) (e45 : a.tmps[45]? = some (.int .i64 (ixV (idx k (σ t).kv)))) (Q : Exit → Act → World → Prop) (hQ : ∀ a w, F16 I w0 psB mbB tsB rsB B i inB ra j (upd σ t (keepT (σ t) k (I.R i).heap ((I.R i).nw == 0) (I.D.b i))) wt rqv wtv a w → Q .normal a w) (hQe : ∀ a w, F16 I w0 psB mbB tsB rsB B i inB ra j (upd σ t (keepT (σ t) k (I.R i).heap ((I.R i).nw == 0) (I.D.b i))) wt rqv wtv a w → Q (.exit 17) a w) :
    Code.wp Yba.prog (nav [1, 1, 1, 1, 1, 1, 1, 1, 1, 1, 1, 1, 1, 1, 1, 1, 1, 1, 1, 1, 1, 0, 1, 0, 0, 1, 0, 0, 1, 1, 1, 1, 1, 1, 1, 0, 1, 0, 0, 1, 0, 0, 1, 1, 1, 1, 1, 1, 1] (Yba.f3.body.getD .skip)) Q a w := by
  obtain ⟨x, rfl, hx⟩ := act_fr a hL.size hL.defers
  have e0 := hx _ _ hL.s0
  have e1 := hx _ _ hL.s1
  have e2 := hx _ _ hL.s2
  have e10 := hx _ _ hL.s10
  have e11 := hx _ _ hL.s11
  have e12 := hx _ _ hL.s12
  have e17 := hx _ _ hL.s17
  have e18 := hx _ _ hL.s18
  have e19 := hx _ _ hL.s19
  have e20 := hx _ _ hL.s20
  have e21 := hx _ _ hL.s21
  have e22 := hx _ _ hL.s22
  have e29 := hx _ _ hL.s29
  have e30 := hx _ _ hL.s30
  have e31 := hx _ _ hL.s31
  have e32 := hx _ _ hL.s32
  have e33 := hx _ _ hL.s33
  have e34 := hx _ _ hL.s34
  have e35 := hx _ _ hL.s35
  replace e40 := hx _ _ e40
  replace e42 := hx _ _ e42
  replace e44 := hx _ _ e44
  replace e45 := hx _ _ e45
  clear hx hL
  unfold ptr at e33 e35 e44
  have i1 := hM.tin.cell 1 _ rfl
  have i4 := hM.tin.cell 4 _ rfl
  obtain ⟨hp, hhp⟩ : ∃ hp, hp = (I.R i).heap := ⟨_, rfl⟩
  obtain ⟨nw, hnw⟩ : ∃ nw, nw = (I.R i).nw := ⟨_, rfl⟩
  have HIN : Hid (hp = (I.R i).heap ∧ nw = (I.R i).nw) := ⟨hhp, hnw⟩
  rw [← hhp] at i1
  rw [← hnw] at i4
  clear hhp hnw
  obtain ⟨cur, hcur⟩ : ∃ cur, cur = get k (σ t).kv := ⟨_, rfl⟩
  have HC : Hid (cur = get k (σ t).kv) := hcur
  have HH : Hid (MS I w0 lab w A psB mbB tsB rsB B ks vs i inB (fun t => (σ t).s) (fun t => (σ t).f) (fun t => (σ t).kv) (fun t => (σ t).kv) wt rqv wtv ∧ Tmp lab w kB (keyC k)) := ⟨hM, hTk⟩
  clear hTk
  cases hi : idx k (σ t).kv with
  | none =>
    have hc0 : cur = 0 := by rw [hcur, (idx_none hi).1]
    rw [hi] at e45
    have HI : Hid (idx k (σ t).kv = none) := hi
    clear hi hM hcur
    subst hc0
    obtain ⟨cur, hcur⟩ : ∃ cur : Int, cur = 0 := ⟨_, rfl⟩
    simp only [ixV] at e45
    simp only [fr, Nat.reduceAdd, e0, e1, e2, e10, e11, e12, e17, e18, e19, e20, e21, e22, e29, e30, e31, e32, e33, e34, e35, e40, e42, e44, e45]
    clear e0 e1 e2 e10 e11 e12 e17 e18 e19 e20 e21 e22 e29 e30 e31 e32 e33 e34 e35 e40 e42 e44 e45
    conv => arg 2; whnf
    by_cases hh : hp < 0
    · by_cases hw0 : nw = 0
      · have hw1 : ((nw : Int) == 0) = true := by simp [hw0]
        have HK : Hid ((upd σ t (keepT (σ t) k (I.R i).heap ((I.R i).nw == 0) (I.D.b i))) = σ) := by
          unfold Hid keepT
          rw [if_pos ⟨by rw [← HC.out, ← HIN.out.1]; exact hh, by rw [← HIN.out.2]; simp [hw0]⟩]
          exact upd_id rfl
        clear hw0
        go_upto_if 488 with fail
        refine wp_cond_true rfl ?_
        refine wp_exit ?_
        refine hQe _ _ ⟨⟨⟨⟨⟨rfl, rfl, rfl, rfl, rfl⟩, rfl, rfl, rfl⟩, rfl, rfl, rfl, rfl, rfl, rfl⟩, rfl, rfl, rfl, rfl, rfl, rfl, rfl⟩, rfl, lab, A, ks, vs, hra, ?_⟩
        rw [HK.out]
        exact HH.out.1
      · have hw1 : ((nw : Int) == 0) = false := by simp; omega
        have HK : Hid ((upd σ t (keepT (σ t) k (I.R i).heap ((I.R i).nw == 0) (I.D.b i))) = upd σ t ⟨wrap64 ((σ t).s + 1), newF (σ t).f (I.D.b i), put k (mx (get k (σ t).kv) (newB (σ t).f (I.D.b i))) (σ t).kv⟩) := by
          unfold Hid keepT
          rw [if_neg fun h => hw0 (by rw [HIN.out.2]; simpa using h.2)]
        clear hw0
        go_upto_if 488 with fail
        refine wp_cond_false rfl ?_
        refine wp_skip ?_
        simp only [Exit.then]
        refine ‹∀ (a : Act) (w : World), Code.wp _ _ _ a w → _› _ _ ?_
        exact p98 I w0 psB mbB tsB rsB B i inB ra j t kB htn k σ hF wt rqv wtv lab A ks vs w hra HH.out.2 _ HK.out HH.out.1 _ ⟨⟨⟨⟨rfl, rfl, rfl, rfl, rfl⟩, rfl, rfl, rfl⟩, rfl, rfl, rfl, rfl, rfl, rfl⟩, rfl, rfl, rfl, rfl, rfl, rfl, rfl⟩ rfl rfl rfl (by rw [HI.out]; rfl) (by rw [← HC.out]; rfl) Q hQ
    · have HK : Hid ((upd σ t (keepT (σ t) k (I.R i).heap ((I.R i).nw == 0) (I.D.b i))) = upd σ t ⟨wrap64 ((σ t).s + 1), newF (σ t).f (I.D.b i), put k (mx (get k (σ t).kv) (newB (σ t).f (I.D.b i))) (σ t).kv⟩) := by
        unfold Hid keepT
        rw [if_neg fun h => hh (by rw [HC.out, HIN.out.1]; exact h.1)]
      go_upto_if 488 with fail
      refine wp_cond_false rfl ?_
      refine wp_skip ?_
      simp only [Exit.then]
      refine ‹∀ (a : Act) (w : World), Code.wp _ _ _ a w → _› _ _ ?_
      exact p98 I w0 psB mbB tsB rsB B i inB ra j t kB htn k σ hF wt rqv wtv lab A ks vs w hra HH.out.2 _ HK.out HH.out.1 _ ⟨⟨⟨⟨rfl, rfl, rfl, rfl, rfl⟩, rfl, rfl, rfl⟩, rfl, rfl, rfl, rfl, rfl, rfl⟩, rfl, rfl, rfl, rfl, rfl, rfl, rfl⟩ rfl rfl rfl (by rw [HI.out]; rfl) (by rw [← HC.out]; rfl) Q hQ
  | some q =>
    obtain ⟨hq1, hq2, hq3⟩ := idx_some hi
    obtain ⟨g, cap, u, hv1, hu, c1, z1, htag, hgl⟩ := (hM.rs.mod.vals t htn).cell hq1
    have hu' : u = .int .i64 cur := by
      have : (valsL (σ t).kv)[q]? = some (.int .i64 (get k (σ t).kv)) := by unfold valsL; rw [List.getElem?_map, hq2]; rfl
      rw [this] at hu
      rw [hcur]
      exact (Option.some.inj hu).symm
    subst hu'
    have c0 := hM.rs.mod.r3.cell (i := t) htn
    rw [hv1] at c0
    have hlen := hF t
    obtain ⟨n, hn⟩ : ∃ n, n = (σ t).kv.length := ⟨_, rfl⟩
    rw [← hn] at c0 hq1 hlen
    have htI : (t : Int) < I.D.nt := by omega
    have hqI : (q : Int) < n := by omega
    have hq0 : (0 : Int) ≤ q := by omega
    rw [hi] at e45
    have HI : Hid (idx k (σ t).kv = some q) := hi
    clear hi hM hcur hq2 hq3 hv1 hu htag hn
    simp only [ixV] at e45
    simp only [fr, Nat.reduceAdd, e0, e1, e2, e10, e11, e12, e17, e18, e19, e20, e21, e22, e29, e30, e31, e32, e33, e34, e35, e40, e42, e44, e45]
    clear e0 e1 e2 e10 e11 e12 e17 e18 e19 e20 e21 e22 e29 e30 e31 e32 e33 e34 e35 e40 e42 e44 e45
    conv => arg 2; whnf
    by_cases hh : hp < cur
    · by_cases hw0 : nw = 0
      · have hw1 : ((nw : Int) == 0) = true := by simp [hw0]
        have HK : Hid ((upd σ t (keepT (σ t) k (I.R i).heap ((I.R i).nw == 0) (I.D.b i))) = σ) := by
          unfold Hid keepT
          rw [if_pos ⟨by rw [← HC.out, ← HIN.out.1]; exact hh, by rw [← HIN.out.2]; simp [hw0]⟩]
          exact upd_id rfl
        clear hw0
        go_upto_if 488 with fail
        refine wp_cond_true rfl ?_
        refine wp_exit ?_
        refine hQe _ _ ⟨⟨⟨⟨⟨rfl, rfl, rfl, rfl, rfl⟩, rfl, rfl, rfl⟩, rfl, rfl, rfl, rfl, rfl, rfl⟩, rfl, rfl, rfl, rfl, rfl, rfl, rfl⟩, rfl, lab, A, ks, vs, hra, ?_⟩
        rw [HK.out]
        exact HH.out.1
      · have hw1 : ((nw : Int) == 0) = false := by simp; omega
        have HK : Hid ((upd σ t (keepT (σ t) k (I.R i).heap ((I.R i).nw == 0) (I.D.b i))) = upd σ t ⟨wrap64 ((σ t).s + 1), newF (σ t).f (I.D.b i), put k (mx (get k (σ t).kv) (newB (σ t).f (I.D.b i))) (σ t).kv⟩) := by
          unfold Hid keepT
          rw [if_neg fun h => hw0 (by rw [HIN.out.2]; simpa using h.2)]
        clear hw0
        go_upto_if 488 with fail
        refine wp_cond_false rfl ?_
        refine wp_skip ?_
        simp only [Exit.then]
        refine ‹∀ (a : Act) (w : World), Code.wp _ _ _ a w → _› _ _ ?_
        exact p98 I w0 psB mbB tsB rsB B i inB ra j t kB htn k σ hF wt rqv wtv lab A ks vs w hra HH.out.2 _ HK.out HH.out.1 _ ⟨⟨⟨⟨rfl, rfl, rfl, rfl, rfl⟩, rfl, rfl, rfl⟩, rfl, rfl, rfl, rfl, rfl, rfl⟩, rfl, rfl, rfl, rfl, rfl, rfl, rfl⟩ rfl rfl rfl (by rw [HI.out]; rfl) (by rw [← HC.out]; rfl) Q hQ
    · have HK : Hid ((upd σ t (keepT (σ t) k (I.R i).heap ((I.R i).nw == 0) (I.D.b i))) = upd σ t ⟨wrap64 ((σ t).s + 1), newF (σ t).f (I.D.b i), put k (mx (get k (σ t).kv) (newB (σ t).f (I.D.b i))) (σ t).kv⟩) := by
        unfold Hid keepT
        rw [if_neg fun h => hh (by rw [HC.out, HIN.out.1]; exact h.1)]
      go_upto_if 488 with fail
      refine wp_cond_false rfl ?_
      refine wp_skip ?_
      simp only [Exit.then]
      refine ‹∀ (a : Act) (w : World), Code.wp _ _ _ a w → _› _ _ ?_
      exact p98 I w0 psB mbB tsB rsB B i inB ra j t kB htn k σ hF wt rqv wtv lab A ks vs w hra HH.out.2 _ HK.out HH.out.1 _ ⟨⟨⟨⟨rfl, rfl, rfl, rfl, rfl⟩, rfl, rfl, rfl⟩, rfl, rfl, rfl, rfl, rfl, rfl⟩, rfl, rfl, rfl, rfl, rfl, rfl, rfl⟩ rfl rfl rfl (by rw [HI.out]; rfl) (by rw [← HC.out]; rfl) Q hQ
end Go.Proofs.Ybulkeyzg
