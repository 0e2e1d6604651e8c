import Derived.Test.YbulkeyzgBA
namespace Go.Proofs.Ybulkeyzg
open Go.RowKit

section
variable (I : Inp)
def Inp.bkey (i j : Nat) : Key := ((I.T i).pg j % I.D.np, (I.T i).m j % 3, (I.T i).k j % 4)
def Inp.kvN (i : Nat) : Nat → KV
  | 0 => []
  | j + 1 => put (I.bkey i j) ((I.T i).b j) (Inp.kvN i j)
def Inp.σ0 (t : Nat) : TS := if t < I.lt then ⟨(I.T t).s, (I.T t).f, I.kvN t (I.T t).nb⟩ else ⟨0, 0, []⟩
def Inp.σh (i : Nat) (t : Nat) : TS := if t < i then I.σ0 t else ⟨0, 0, []⟩
def Inp.σi (i j : Nat) : Nat → TS := upd (I.σh i) i ⟨(I.T i).s, (I.T i).f, I.kvN i j⟩
theorem Inp.kvN_len (i : Nat) : ∀ j, (I.kvN i j).length ≤ j
  | 0 => Nat.le_refl _
  | j + 1 => by
    have := (put_len (I.bkey i j) ((I.T i).b j) (I.kvN i j)).1
    have := Inp.kvN_len i j
    show (put _ _ _).length ≤ _
    omega
theorem Inp.bkey_ok (i j : Nat) : Ok I.D.np (I.bkey i j) := ⟨Nat.mod_lt _ I.D_fine.np, Nat.mod_lt _ (by omega), Nat.mod_lt _ (by omega)⟩
theorem Inp.kvN_ok (i : Nat) : ∀ j, All (Ok I.D.np) (I.kvN i j)
  | 0 => fun e he => by cases he
  | j + 1 => (Inp.kvN_ok i j).put (I.bkey_ok i j)
/-- with the transactions' slots -/
structure Lv2 (psB mbB tsB : Nat) (B : MB) (a : Act) : Prop extends Lv1 I psB mbB a where
  s17 : a.tmps[17]? = some (.int .i64 I.D.nt)
  s18 : a.tmps[18]? = some (.slice (some ⟨tsB, 0, none⟩) I.D.nt I.D.nt)
  s19 : a.tmps[19]? = some (.slice (some ⟨B.ms, 0, none⟩) I.D.nt I.D.nt)
  s20 : a.tmps[20]? = some (.slice (some ⟨B.mf, 0, none⟩) I.D.nt I.D.nt)
  s21 : a.tmps[21]? = some (.slice (some ⟨B.kb, 0, none⟩) I.D.nt I.D.nt)
  s22 : a.tmps[22]? = some (.slice (some ⟨B.vb, 0, none⟩) I.D.nt I.D.nt)
/-- the state while the transactions are made, by the plain one -/
def TGS (w0 : World) (w : World) (psB mbB tsB : Nat) (B : MB) (n m ta : Nat) (σm σr : Nat → TS) : Prop :=
  ∃ (lab : Lab) (A : Adr) (ks vs : Nat → Value), A.ta n = ta ∧ TG I w0 lab w A psB mbB tsB B ks vs n m (fun t => (σm t).s) (fun t => (σm t).f) (fun t => (σm t).kv) (fun t => (σm t).kv) σr
end


/-- the frame inside loop 5 -/
structure Lv5 (I : Inp) (psB mbB tsB : Nat) (B : MB) (i j ta bb kb : Nat) (a : Act) : Prop extends Lv2 I psB mbB tsB B a where
  s23 : a.tmps[23]? = some (.int .i64 i)
  s24 : a.tmps[24]? = some (ptr ta)
  s25 : a.tmps[25]? = some (.int .i64 j)
  s26 : a.tmps[26]? = some (ptr bb)
  s27 : a.tmps[27]? = some (ptr kb)
/-- behind a round's body -/
def F5 (I : Inp) (w0 : World) (psB mbB tsB : Nat) (B : MB) (i j ta : Nat) (a : Act) (w : World) : Prop := Lv2 I psB mbB tsB B a ∧ a.tmps[23]? = some (.int .i64 i) ∧ a.tmps[24]? = some (ptr ta) ∧ a.tmps[25]? = some (.int .i64 j) ∧ TGS I w0 w psB mbB tsB B i (i + 1) ta (I.σi i (j + 1)) (I.σi i (j + 1))
/-- what lies inside a round: the model's lists of transaction i are kv -/
structure S5 (I : Inp) (w0 : World) (lab : Lab) (w : World) (A : Adr) (psB mbB tsB : Nat) (B : MB) (ks vs : Nat → Value) (i ta bb kb : Nat) (kk vv : Nat → KV) (σm σr : Nat → TS) (k : Key) (z : Int) (l : List Value) : Prop where
  tg : TG I w0 lab w A psB mbB tsB B ks vs i (i + 1) (fun t => (σm t).s) (fun t => (σm t).f) kk vv σr
  ta : A.ta i = ta
  tb : Tmp lab w bb (l ++ [.int .i64 z])
  l3 : l.length = 3
  tk : Tmp lab w kb (keyC k)

theorem Inp.σi_succ (I : Inp) (i j : Nat) : I.σi i (j + 1) = upd (I.σi i j) i ⟨(I.T i).s, (I.T i).f, put (I.bkey i j) ((I.T i).b j) (I.kvN i j)⟩ := by
  funext t
  unfold Inp.σi
  by_cases e : t = i
  · rw [e, upd_same, upd_same]; rfl
  · rw [upd_other _ _ e, upd_other _ _ e, upd_other _ _ e]
theorem Inp.σi_kv (I : Inp) (i j : Nat) : (I.σi i j i).kv = I.kvN i j := by unfold Inp.σi; rw [upd_same]

/-- the lists of the model behind the round -/
theorem fin5 {I : Inp} {w0 : World} {lab : Lab} {w : World} {A : Adr} {psB mbB tsB : Nat} {B : MB} {ks vs : Nat → Value} {i j : Nat} {kk vv : Nat → KV}
    (h : TG I w0 lab w A psB mbB tsB B ks vs i (i + 1) (fun t => (I.σi i j t).s) (fun t => (I.σi i j t).f) kk vv (I.σi i (j + 1)))
    (hk : ∀ t, t < I.D.nt → keysL (kk t) = keysL ((I.σi i (j + 1) t).kv) ∧ (kk t).length = ((I.σi i (j + 1) t).kv).length) (hv : ∀ t, t < I.D.nt → vv t = (I.σi i (j + 1) t).kv) : TGS I w0 w psB mbB tsB B i (i + 1) (A.ta i) (I.σi i (j + 1)) (I.σi i (j + 1)) := by
  refine ⟨lab, A, ks, vs, rfl, h.labs, h.pg, h.tts, h.rts, ?_, h.trx⟩
  have h' := h.mod.congr (s' := fun t => (I.σi i (j + 1) t).s) (f' := fun t => (I.σi i (j + 1) t).f) (kk' := kk) (vv' := fun t => (I.σi i (j + 1) t).kv) (fun t _ => by
    rw [I.σi_succ]
    by_cases e : t = i
    · rw [e, upd_same]; unfold Inp.σi; rw [upd_same]
    · rw [upd_other _ _ e]) (fun t _ => by
    rw [I.σi_succ]
    by_cases e : t = i
    · rw [e, upd_same]; unfold Inp.σi; rw [upd_same]
    · rw [upd_other _ _ e]) (fun _ _ => rfl) hv
  exact ⟨h'.t0, h'.r0, h'.t1, h'.r1, h'.t2, h'.r2, h'.t3, h'.r3, fun t ht => by
    have := h'.keys t ht
    rw [(hk t ht).1, (hk t ht).2] at this
    exact this, h'.vals⟩

set_option maxRecDepth 100000 in
set_option maxHeartbeats 4000000 in
theorem p58 (I : Inp) (w0 : World) (hlp : I.lp ≤ 4096) (hlt : I.lt ≤ 4096) (psB mbB tsB : Nat) (B : MB) (i j ta bb kb : Nat) (hil : i < I.lt) (hjl : j < (I.T i).nb) (hnb : (I.T i).nb ≤ 4096) (q : Nat) (Q : Exit → Act → World → Prop) (hQ : ∀ a w, F5 I w0 psB mbB tsB B i j ta a w → Q .normal a w) (a : Act) (w : World)
    (hL : Lv5 I psB mbB tsB B i j ta bb kb a) (e28 : a.tmps[28]? = some (.int .i64 (q : Int))) (lab : Lab) (A : Adr) (ks vs : Nat → Value) (l : List Value) (hS : S5 I w0 lab w A psB mbB tsB B ks vs i ta bb kb (fun t => (I.σi i j t).kv) (fun t => (I.σi i j t).kv) (I.σi i j) (I.σi i (j + 1)) (I.bkey i j) ((I.T i).b j) l) (hq : idx (I.bkey i j) (I.kvN i j) = some q) :
    Code.wp Yba.prog (nav [1, 1, 1, 1, 1, 1, 1, 1, 1, 1, 1, 1, 1, 1, 1, 1, 1, 0, 1, 0, 0, 1, 0, 0, 1, 0, 1, 0, 1, 1, 1, 1, 1, 0, 0, 1, 0, 0, 1, 1, 1, 1] (Yba.f3.body.getD .skip)) Q a w := by
  obtain ⟨x, rfl, hx⟩ := act_fr a hL.size hL.defers
  have e0 := hx _ _ hL.s0
  have e1 := hx _ _ hL.s1
  have e2 := hx _ _ hL.s2
  have e10 := hx _ _ hL.s10
  have e11 := hx _ _ hL.s11
  have e12 := hx _ _ hL.s12
  have e17 := hx _ _ hL.s17
  have e18 := hx _ _ hL.s18
  have e19 := hx _ _ hL.s19
  have e20 := hx _ _ hL.s20
  have e21 := hx _ _ hL.s21
  have e22 := hx _ _ hL.s22
  have e23 := hx _ _ hL.s23
  have e24 := hx _ _ hL.s24
  have e25 := hx _ _ hL.s25
  have e26 := hx _ _ hL.s26
  have e27 := hx _ _ hL.s27
  replace e28 := hx _ _ e28
  clear hx hL
  unfold ptr at e24 e26 e27
  have hnp : I.D.np ≤ 4096 := by show (if I.lp = 0 then 1 else I.lp) ≤ 4096; split <;> omega
  have hnp0 := I.D_fine.np
  have hnt : I.D.nt ≤ 4096 := by show (if I.lt = 0 then 1 else I.lt) ≤ 4096; split <;> omega
  have hint : i < I.D.nt := by show i < (if I.lt = 0 then 1 else I.lt); split <;> omega
  obtain ⟨np, hnpe⟩ : ∃ np, np = I.D.np := ⟨_, rfl⟩
  obtain ⟨nt, hnte⟩ : ∃ nt, nt = I.D.nt := ⟨_, rfl⟩
  have HNP : Hid (np = I.D.np ∧ nt = I.D.nt) := ⟨hnpe, hnte⟩
  rw [← hnpe] at e10 e11 e12 hnp hnp0
  rw [← hnte] at e17 e18 e19 e20 e21 e22 hnt hint
  clear hnpe hnte
  have hI : (i : Int) < I.lt := by omega
  have hI2 : (i : Int) < nt := by omega
  obtain ⟨hq1, hq2, hq3⟩ := idx_some hq
  have hv := hS.tg.mod.vals i (by rw [← HNP.out.2]; exact hint)
  have hkv := I.σi_kv i j
  simp only [hkv] at hv
  obtain ⟨g, cap, u, hv1, hu, c1, z1, htag, hgl⟩ := hv.cell hq1
  have c0 := hS.tg.mod.r3.cell (i := i) (by rw [← HNP.out.2]; exact hint)
  rw [hv1] at c0
  have c3 := hS.tb.cell 3 (.int .i64 ((I.T i).b j)) (by rw [List.getElem?_append_right (by rw [hS.l3]; omega), hS.l3]; rfl)
  have hne : g ≠ B.vb := tag_ne htag hS.tg.mod.t3 (by simp)
  have hne2 : g ≠ bb := fun e => by rw [e, hS.tb.tag] at htag; cases htag
  have hlen := I.kvN_len i j
  obtain ⟨n, hn⟩ : ∃ n, n = (I.kvN i j).length := ⟨_, rfl⟩
  obtain ⟨z, hz⟩ : ∃ z, z = (I.T i).b j := ⟨_, rfl⟩
  have HE : Hid (n = (I.kvN i j).length ∧ z = (I.T i).b j ∧ vs i = .slice (some ⟨g, 0, none⟩) (I.kvN i j).length cap) := ⟨hn, hz, hv1⟩
  rw [← hn] at c0 hq1 hlen
  rw [← hz] at c3
  have HS : Hid (S5 I w0 lab w A psB mbB tsB B ks vs i ta bb kb (fun t => (I.σi i j t).kv) (fun t => (I.σi i j t).kv) (I.σi i j) (I.σi i (j + 1)) (I.bkey i j) ((I.T i).b j) l) := hS
  have HQ : Hid ((I.kvN i j)[q]? = some (I.bkey i j, get (I.bkey i j) (I.kvN i j)) ∧ ∀ v, put (I.bkey i j) v (I.kvN i j) = (I.kvN i j).set q (I.bkey i j, v)) := ⟨hq2, hq3⟩
  have hQI : (q : Int) < (n : Int) := by omega
  have hq0 : ¬ (q : Int) < 0 := by omega
  have y0 : ∀ v, (w.drew.setCell ⟨g, q, none⟩ v).cell? ⟨B.vb, i, none⟩ = some (.slice (some ⟨g, 0, none⟩) n cap) := fun v => (World.cell?_of_block (a := ⟨B.vb, i, none⟩) (Go.Deep.blk_setCell_other _ _ _ _ hne.symm)).trans c0
  have y3 : ∀ v, (w.drew.setCell ⟨g, q, none⟩ v).cell? ⟨bb, 3, none⟩ = some (.int .i64 z) := fun v => (World.cell?_of_block (a := ⟨bb, 3, none⟩) (Go.Deep.blk_setCell_other _ _ _ _ hne2.symm)).trans c3
  clear hS hq hq2 hq3 hv hkv hu hv1 hn hz
  simp only [fr, Nat.reduceAdd, e0, e1, e2, e10, e11, e12, e17, e18, e19, e20, e21, e22, e23, e24, e25, e26, e27, e28]
  clear e0 e1 e2 e10 e11 e12 e17 e18 e19 e20 e21 e22 e23 e24 e25 e26 e27 e28
  conv => arg 2; whnf
  go_upto_region 58 with fail
  go_region_held3 (fun w' => w'.cell? ⟨B.vb, i, none⟩ = some (.slice (some ⟨g, 0, none⟩) n cap) ∧ w'.cell? ⟨bb, 3, none⟩ = some (.int .i64 z)) (first | exact ⟨c0, c3⟩ | exact ⟨y0 _, y3 _⟩ | (simp [go_sem, c0, c3, y0, y3])) (fail)
  refine hQ _ _ ⟨⟨⟨⟨rfl, rfl, rfl, rfl, rfl⟩, by rw [← HNP.out.1]; rfl, by rw [← HNP.out.1]; rfl, by rw [← HNP.out.1]; rfl⟩, by rw [← HNP.out.2]; rfl, by rw [← HNP.out.2]; rfl, by rw [← HNP.out.2]; rfl, by rw [← HNP.out.2]; rfl, by rw [← HNP.out.2]; rfl, by rw [← HNP.out.2]; rfl⟩, rfl, rfl, rfl, ?_⟩
  have hti : i < I.D.nt := by rw [← HNP.out.2]; exact hint
  have hm := (HS.out.tg.mod.setV hti q (I.bkey i j, z) (g := g) (cap := cap) (by rw [I.σi_kv]; exact HE.out.2.2)).1
  have hT : Touch (InG lab 3) w (w.setCell ⟨g, q, none⟩ (.int .i64 z)) := Touch.setCell (Touch.refl _ _) (.inl ⟨_, htag, rfl⟩) _
  have hG := (HS.out.tg.mod3 (HS.out.tg.labs.touchG hT) (Grow.of_same (Same.group HS.out.tg.labs hT)) hm).touch0 (Touch.refl _ _).drew
  rw [← HS.out.ta]
  refine fin5 hG (fun t ht => ?_) (fun t ht => ?_)
  · by_cases e : t = i
    · subst e
      rw [I.σi_kv, I.σi_kv]
      show _ = keysL (put _ _ _) ∧ _ = (put _ _ _).length
      rw [HQ.out.2, keysL_set (by rw [HQ.out.1]; rfl), List.length_set]
      exact ⟨rfl, rfl⟩
    · rw [I.σi_succ, upd_other _ _ e]
      exact ⟨rfl, rfl⟩
  · by_cases e : t = i
    · subst e
      rw [upd_same, I.σi_kv, I.σi_kv]
      show _ = put _ _ _
      rw [HQ.out.2, HE.out.2.1]
    · rw [upd_other _ _ e, I.σi_succ, upd_other _ _ e]
end Go.Proofs.Ybulkeyzg
