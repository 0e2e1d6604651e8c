import Derived.Test.YbulkeyzgC7
namespace Go.Proofs.Ybulkeyzg
open Go.RowKit

/-- the state in the model's part of record i's round -/
structure MS (I : Inp) (w0 : World) (lab : Lab) (w : World) (A : Adr) (psB mbB tsB rsB : Nat) (B : MB) (ks vs : Nat → Value) (i inB : Nat) (s f : Nat → Int) (kk vv : Nat → KV) (wt : List Int) (rqv wtv : Value) : Prop where
  tin : Tmp lab w inB (inL I i)
  rs : RS I w0 lab w A psB mbB tsB rsB B ks vs (i + 1) (i + 1) (upd (NH I) i (I.R i).nh) (upd (NW I) i (I.R i).nw) (I.D.off i + (I.R i).nw) s f kk vv wt rqv wtv
/-- the same, the model's state a plain one -/
def MSt (I : Inp) (w0 w : World) (psB mbB tsB rsB : Nat) (B : MB) (i inB ra : Nat) (σ : Nat → TS) (wt : List Int) (rqv wtv : Value) : Prop :=
  ∃ lab A ks vs, A.ra i = ra ∧ MS I w0 lab w A psB mbB tsB rsB B ks vs i inB (fun t => (σ t).s) (fun t => (σ t).f) (fun t => (σ t).kv) (fun t => (σ t).kv) wt rqv wtv
/-- the keys of all transactions stay few -/
def Few (n : Nat) (σ : Nat → TS) : Prop := ∀ t, (σ t).kv.length ≤ n

theorem MS.fin {I : Inp} {w0 : World} {lab : Lab} {w : World} {A : Adr} {psB mbB tsB rsB : Nat} {B : MB} {ks vs : Nat → Value} {i inB : Nat} {s f : Nat → Int} {kk vv : Nat → KV} {wt : List Int} {rqv wtv : Value} (h : MS I w0 lab w A psB mbB tsB rsB B ks vs i inB s f kk vv wt rqv wtv) {σ : Nat → TS}
    (hs : ∀ t, t < I.D.nt → s t = (σ t).s ∧ f t = (σ t).f ∧ keysL (kk t) = keysL ((σ t).kv) ∧ (kk t).length = ((σ t).kv).length ∧ vv t = (σ t).kv) : MS I w0 lab w A psB mbB tsB rsB B ks vs i inB (fun t => (σ t).s) (fun t => (σ t).f) (fun t => (σ t).kv) (fun t => (σ t).kv) wt rqv wtv := by
  refine ⟨h.tin, h.rs.labs, h.rs.pg, h.rs.tts, h.rs.rts, h.rs.trx, ?_, h.rs.trs, h.rs.rrs, h.rs.recs, h.rs.reqo, h.rs.reqs, h.rs.want⟩
  have h' := h.rs.mod.congr (s' := fun t => (σ t).s) (f' := fun t => (σ t).f) (kk' := kk) (vv' := fun t => (σ t).kv) (fun t ht => (hs t ht).1) (fun t ht => (hs t ht).2.1) (fun _ _ => rfl) (fun t ht => (hs t ht).2.2.2.2)
  exact ⟨h'.t0, h'.r0, h'.t1, h'.r1, h'.t2, h'.r2, h'.t3, h'.r3, fun t ht => by
    have := h'.keys t ht
    rw [(hs t ht).2.2.1, (hs t ht).2.2.2.1] at this
    exact this, h'.vals⟩
theorem MS.mod3 {I : Inp} {w0 : World} {lab lab' : Lab} {w w' : World} {A : Adr} {psB mbB tsB rsB : Nat} {B : MB} {ks vs ks' vs' : Nat → Value} {i inB : Nat} {s f s' f' : Nat → Int} {kk vv kk' vv' : Nat → KV} {wt : List Int} {rqv wtv : Value} (h : MS I w0 lab w A psB mbB tsB rsB B ks vs i inB s f kk vv wt rqv wtv)
    (hF : Free lab lab' w w') (hsz : w.heap.size ≤ w'.heap.size) (hL : Labs w0 w' lab') (hs : Grow lab lab' (fun k => k ≠ 3) w w') (hm : Mod lab' w' w0.heap.size I.D.nt B ks' vs' s' f' kk' vv') : MS I w0 lab' w' A psB mbB tsB rsB B ks' vs' i inB s' f' kk' vv' wt rqv wtv :=
  ⟨h.tin.free hF hsz, h.rs.mod3 hL hs hm⟩
theorem MS.touch0 {I : Inp} {w0 : World} {lab : Lab} {w w' : World} {A : Adr} {psB mbB tsB rsB : Nat} {B : MB} {ks vs : Nat → Value} {i inB : Nat} {s f : Nat → Int} {kk vv : Nat → KV} {wt : List Int} {rqv wtv : Value} (h : MS I w0 lab w A psB mbB tsB rsB B ks vs i inB s f kk vv wt rqv wtv) (ht : Touch (fun _ => False) w w') :
    MS I w0 lab w' A psB mbB tsB rsB B ks vs i inB s f kk vv wt rqv wtv := ⟨h.tin.free (Free.touch ht fun _ h => h.elim) ht.size, h.rs.touch0 ht⟩

/-- behind a round's body of loop 16 -/
def F16 (I : Inp) (w0 : World) (psB mbB tsB rsB : Nat) (B : MB) (i inB ra j : Nat) (σ : Nat → TS) (wt : List Int) (rqv wtv : Value) (a : Act) (w : World) : Prop := LvR I psB mbB tsB rsB B i inB ra rqv wtv a ∧ a.tmps[40]? = some (.int .i64 j) ∧ MSt I w0 w psB mbB tsB rsB B i inB ra σ wt rqv wtv

set_option maxRecDepth 100000 in
set_option maxHeartbeats 4000000 in
/-- region 104: 'mVals[t][x] = b' -/
theorem p104 (I : Inp) (w0 : World) (psB mbB tsB rsB : Nat) (B : MB) (i inB ra j t q : Nat) (htn : t < I.D.nt) (k : Key) (z : Int) (s f : Nat → Int) (σ : Nat → TS) (hF : Few 100000 σ) (wt : List Int) (rqv wtv : Value) (σ' : Nat → TS) (hσ : σ' = upd σ t ⟨s t, f t, put k z (σ t).kv⟩) (hsf : ∀ u, u ≠ t → s u = (σ u).s ∧ f u = (σ u).f)
    (lab : Lab) (A : Adr) (ks vs : Nat → Value) (w : World) (hra : A.ra i = ra) (hM : MS I w0 lab w A psB mbB tsB rsB B ks vs i inB s f (fun t => (σ t).kv) (fun t => (σ t).kv) wt rqv wtv) (hq : idx k (σ t).kv = some q)
    (a : Act) (hL : LvR I psB mbB tsB rsB B i inB ra rqv wtv a) (e40 : a.tmps[40]? = some (.int .i64 j)) (e42 : a.tmps[42]? = some (.int .i64 t)) (e45 : a.tmps[45]? = some (.int .i64 (q : Int))) (e47 : a.tmps[47]? = some (.int .i64 z)) (Q : Exit → Act → World → Prop) (hQ : ∀ a w, F16 I w0 psB mbB tsB rsB B i inB ra j σ' wt rqv wtv a w → Q .normal a w) :
    Code.wp Yba.prog (nav [1, 1, 1, 1, 1, 1, 1, 1, 1, 1, 1, 1, 1, 1, 1, 1, 1, 1, 1, 1, 1, 0, 1, 0, 0, 1, 0, 0, 1, 1, 1, 1, 1, 1, 1, 0, 1, 0, 0, 1, 0, 0, 1, 1, 1, 1, 1, 1, 1, 1, 1, 1, 1, 1, 1, 1] (Yba.f3.body.getD .skip)) Q a w := by
  obtain ⟨x, rfl, hx⟩ := act_fr a hL.size hL.defers
  have e0 := hx _ _ hL.s0
  have e1 := hx _ _ hL.s1
  have e2 := hx _ _ hL.s2
  have e10 := hx _ _ hL.s10
  have e11 := hx _ _ hL.s11
  have e12 := hx _ _ hL.s12
  have e17 := hx _ _ hL.s17
  have e18 := hx _ _ hL.s18
  have e19 := hx _ _ hL.s19
  have e20 := hx _ _ hL.s20
  have e21 := hx _ _ hL.s21
  have e22 := hx _ _ hL.s22
  have e29 := hx _ _ hL.s29
  have e30 := hx _ _ hL.s30
  have e31 := hx _ _ hL.s31
  have e32 := hx _ _ hL.s32
  have e33 := hx _ _ hL.s33
  have e34 := hx _ _ hL.s34
  have e35 := hx _ _ hL.s35
  replace e40 := hx _ _ e40
  replace e42 := hx _ _ e42
  replace e45 := hx _ _ e45
  replace e47 := hx _ _ e47
  clear hx hL
  unfold ptr at e33 e35
  obtain ⟨hq1, hq2, hq3⟩ := idx_some hq
  have hv := hM.rs.mod.vals t htn
  obtain ⟨g, cap, u, hv1, hu, c1, z1, htag, hgl⟩ := hv.cell hq1
  have c0 := hM.rs.mod.r3.cell (i := t) htn
  rw [hv1] at c0
  have hlen := hF t
  obtain ⟨n, hn⟩ : ∃ n, n = (σ t).kv.length := ⟨_, rfl⟩
  have HN : Hid (n = (σ t).kv.length) := hn
  rw [← hn] at c0 hq1 hlen
  obtain ⟨nt, hnte⟩ : ∃ nt, nt = I.D.nt := ⟨_, rfl⟩
  obtain ⟨np, hnpe⟩ : ∃ np, np = I.D.np := ⟨_, rfl⟩
  have HNP : Hid (np = I.D.np ∧ nt = I.D.nt) := ⟨hnpe, hnte⟩
  rw [← hnpe] at e10 e11 e12
  rw [← hnte] at e17 e18 e19 e20 e21 e22
  have htI : (t : Int) < nt := by rw [hnte]; omega
  have hqI : (q : Int) < n := by omega
  clear hnpe hnte
  have HFin : Hid (MSt I w0 (w.setCell ⟨g, q, none⟩ (.int .i64 z)) psB mbB tsB rsB B i inB ra σ' wt rqv wtv) := by
    have hm := (hM.rs.mod.setV htn q (k, z) (g := g) (cap := cap) hv1).1
    have hT : Touch (InG lab 3) w (w.setCell ⟨g, q, none⟩ (.int .i64 z)) := Touch.setCell (Touch.refl _ _) (.inl ⟨_, htag, rfl⟩) _
    have hFr : Free lab lab w (w.setCell ⟨g, q, none⟩ (.int .i64 z)) := Free.touch hT fun b ⟨y, hy, _⟩ => by rw [hy]; simp
    refine ⟨lab, A, ks, vs, hra, (hM.mod3 hFr hT.size (hM.rs.labs.touchG hT) (Grow.of_same (Same.group hM.rs.labs hT)) hm).fin fun u hu => ?_⟩
    by_cases e : u = t
    · subst e
      rw [hσ, upd_same, upd_same, hq3]
      exact ⟨rfl, rfl, (keysL_set (by rw [hq2]; rfl)).symm, by rw [List.length_set], rfl⟩
    · rw [hσ, upd_other _ _ e, upd_other _ _ e]
      exact ⟨(hsf u e).1, (hsf u e).2, rfl, rfl, rfl⟩
  clear hM hv hv1 hq2 hq3 hu htag hn hq
  simp only [fr, Nat.reduceAdd, e0, e1, e2, e10, e11, e12, e17, e18, e19, e20, e21, e22, e29, e30, e31, e32, e33, e34, e35, e40, e42, e45, e47]
  clear e0 e1 e2 e10 e11 e12 e17 e18 e19 e20 e21 e22 e29 e30 e31 e32 e33 e34 e35 e40 e42 e45 e47
  conv => arg 2; whnf
  go_wp2_with fail
  exact ⟨⟨⟨⟨⟨rfl, rfl, rfl, rfl, rfl⟩, by rw [← HNP.out.1]; rfl, by rw [← HNP.out.1]; rfl, by rw [← HNP.out.1]; rfl⟩, by rw [← HNP.out.2]; rfl, by rw [← HNP.out.2]; rfl, by rw [← HNP.out.2]; rfl, by rw [← HNP.out.2]; rfl, by rw [← HNP.out.2]; rfl, by rw [← HNP.out.2]; rfl⟩, rfl, rfl, rfl, rfl, rfl, rfl, rfl⟩, rfl, HFin.out⟩
end Go.Proofs.Ybulkeyzg
