import Derived.Test.YbulkeyzgE5
import Derived.Test.YbulkeyzgE6
namespace Go.Proofs.Ybulkeyzg
open Go.RowKit

theorem Kn.add {n : Nat} {L : List (Nat × Value)} {a : Act} (h : Kn n L a) {k : Nat} {v : Value} (e : a.tmps[k]? = some v) : Kn n ((k, v) :: L) a := by
  refine ⟨h.size, h.defers, fun q u hq => ?_⟩
  unfold lk at hq
  cases hb : Nat.beq k q with
  | true =>
    simp only [hb] at hq
    cases hq
    rw [← Nat.eq_of_beq_eq_true hb]
    exact e
  | false =>
    simp only [hb] at hq
    exact h.get q u hq

set_option maxRecDepth 100000 in
set_option maxHeartbeats 1000000 in
theorem z27 (I : Inp) (w0 : World) (lab : Lab) (A : Adr) (psB mbB tsB rsB : Nat) (B : MB) (ks vs : Nat → Value) (rqv wtv : Value) (β : Nat → Int) (a : Act) (w : World) (hK : Kn 831 (L3 I psB mbB tsB rsB B I.lr rqv wtv) a) (hS : FS I w0 lab w A psB mbB tsB rsB B ks vs rqv wtv β) :
    Code.wp Yba.prog (nav [1, 1, 1, 1, 1, 1, 1, 1, 1, 1, 1, 1, 1, 1, 1, 1, 1, 1, 1, 1, 1, 1, 1, 1, 1, 1, 1] (Yba.f3.body.getD .skip)) (bodyPost Yba.prog Yba.f3 (Post w0)) a w := by
  conv => arg 2; whnf
  refine wp_seq ?_
  refine wp_region_lit ?_
  refine kl hK 6 rfl (by decide) rfl (fun ρ hρ => r_assign _ rfl (hρ _ _ rfl)) ?_
  clear hK a; intro a hK
  refine wpList_nil ?_
  show Code.wp Yba.prog _ _ _ _
  refine wp_ret ?_
  exact kret hK rfl hS.labs.bel

set_option maxRecDepth 100000 in
set_option maxHeartbeats 1000000 in
theorem z26 (I : Inp) (w0 : World) (hA : I.At w0) (hF : I.Fine) (hlp : I.lp ≤ 4096) (lab : Lab) (A : Adr) (psB mbB tsB rsB : Nat) (B : MB) (ks vs : Nat → Value) (rqv wtv : Value) (β : Nat → Int) (a : Act) (w : World) (hK : Kn 831 (L3 I psB mbB tsB rsB B I.lr rqv wtv) a) (hS : FS I w0 lab w A psB mbB tsB rsB B ks vs rqv wtv β) :
    Code.wp Yba.prog (nav [1, 1, 1, 1, 1, 1, 1, 1, 1, 1, 1, 1, 1, 1, 1, 1, 1, 1, 1, 1, 1, 1, 1, 1, 1, 1] (Yba.f3.body.getD .skip)) (bodyPost Yba.prog Yba.f3 (Post w0)) a w := by
  conv => arg 2; whnf
  refine wp_seq ?_
  refine wp_seq ?_
  refine wp_region_lit ?_
  refine kl hK 60 rfl (by decide) rfl (fun ρ hρ => r_assign _ rfl (hρ _ _ rfl)) ?_
  clear hK a; intro a hK
  refine wpList_nil ?_
  show Code.wp Yba.prog _ _ _ _
  exact loop30 I w0 hA hF lab A psB mbB tsB rsB B ks vs rqv wtv β hlp _ _ (fun a w hK hS => z27 I w0 lab A psB mbB tsB rsB B ks vs rqv wtv β a w hK hS) a w (hK.sub ⟨rfl, rfl, rfl, rfl, rfl, rfl, rfl, rfl, rfl, rfl, rfl, rfl, rfl, rfl, rfl, rfl, rfl, trivial⟩) hS

set_option maxRecDepth 100000 in
set_option maxHeartbeats 1000000 in
theorem z25 (I : Inp) (w0 : World) (hA : I.At w0) (hF : I.Fine) (hlp : I.lp ≤ 4096) (hlr : I.lr ≤ 4096) (htot : tot I I.lr ≤ 4096) (lab : Lab) (A : Adr) (psB mbB tsB rsB : Nat) (B : MB) (ks vs : Nat → Value) (rqv wtv : Value) (β : Nat → Int) (a : Act) (w : World) (hK : Kn 831 (L3 I psB mbB tsB rsB B I.lr rqv wtv) a) (hS : FS I w0 lab w A psB mbB tsB rsB B ks vs rqv wtv β) :
    Code.wp Yba.prog (nav [1, 1, 1, 1, 1, 1, 1, 1, 1, 1, 1, 1, 1, 1, 1, 1, 1, 1, 1, 1, 1, 1, 1, 1, 1] (Yba.f3.body.getD .skip)) (bodyPost Yba.prog Yba.f3 (Post w0)) a w := by
  have hnh : ∀ i, i < I.lr → (I.R i).nh ≤ 4096 := fun i hi => by
    have h1 : (I.R i).nh + (I.R i).nw ≤ sumN (fun i => (I.R i).nh + (I.R i).nw) I.lr := sumN_le (f := fun i => (I.R i).nh + (I.R i).nw) hi
    unfold tot at htot
    omega
  conv => arg 2; whnf
  refine wp_seq ?_
  refine wp_seq ?_
  refine wp_region_lit ?_
  refine kl hK 57 rfl (by decide) rfl (fun ρ hρ => r_assign _ rfl (hρ _ _ rfl)) ?_
  clear hK a; intro a hK
  refine wpList_nil ?_
  show Code.wp Yba.prog _ _ _ _
  exact loop26 I w0 hA hF lab A psB mbB tsB rsB B ks vs rqv wtv β hlr hnh _ _ (fun a w hK hS => z26 I w0 hA hF hlp lab A psB mbB tsB rsB B ks vs rqv wtv β a w hK hS) a w (hK.sub ⟨rfl, rfl, rfl, rfl, rfl, rfl, rfl, rfl, rfl, rfl, rfl, rfl, rfl, rfl, rfl, rfl, rfl, trivial⟩) hS

set_option maxRecDepth 100000 in
set_option maxHeartbeats 1000000 in
theorem z24 (I : Inp) (w0 : World) (hA : I.At w0) (hF : I.Fine) (hlp : I.lp ≤ 4096) (hlt : I.lt ≤ 4096) (hlr : I.lr ≤ 4096) (htot : tot I I.lr ≤ 4096) (lab : Lab) (A : Adr) (psB mbB tsB rsB : Nat) (B : MB) (ks vs : Nat → Value) (rqv wtv : Value) (β : Nat → Int) (a : Act) (w : World) (hK : Kn 831 (L3 I psB mbB tsB rsB B I.lr rqv wtv) a) (hS : FS I w0 lab w A psB mbB tsB rsB B ks vs rqv wtv β) :
    Code.wp Yba.prog (nav [1, 1, 1, 1, 1, 1, 1, 1, 1, 1, 1, 1, 1, 1, 1, 1, 1, 1, 1, 1, 1, 1, 1, 1] (Yba.f3.body.getD .skip)) (bodyPost Yba.prog Yba.f3 (Post w0)) a w := by
  have hnt : I.D.nt ≤ 4096 := by show (if I.lt = 0 then 1 else I.lt) ≤ 4096; split <;> omega
  have hnb : ∀ i, i < I.lt → (I.T i).nb ≤ 4096 := fun i hi => by
    have : (I.T i).nb ≤ sumN (fun i => (I.T i).nb) I.lt := sumN_le (f := fun i => (I.T i).nb) hi
    unfold tot at htot
    omega
  have hlen : ∀ t, (I.D.N I.σ0 I.lr t).kv.length ≤ 100000 := fun t => by
    have h1 := I.D.N_len _ (σ0_len I hnb) I.lr t
    have h3 := sums I I.lr
    unfold tot at htot
    omega
  conv => arg 2; whnf
  refine wp_seq ?_
  refine wp_seq ?_
  refine wp_region_lit ?_
  refine kl hK 51 rfl (by decide) rfl (fun ρ hρ => r_assign _ rfl (hρ _ _ rfl)) ?_
  clear hK a; intro a hK
  refine wpList_nil ?_
  show Code.wp Yba.prog _ _ _ _
  exact loop22 I w0 lab A psB mbB tsB rsB B ks vs rqv wtv β hnt hlen _ _ (fun a w hK hS => z25 I w0 hA hF hlp hlr htot lab A psB mbB tsB rsB B ks vs rqv wtv β a w hK hS) a w (hK.sub ⟨rfl, rfl, rfl, rfl, rfl, rfl, rfl, rfl, rfl, rfl, rfl, rfl, rfl, rfl, rfl, rfl, rfl, trivial⟩) hS

set_option maxRecDepth 100000 in
set_option maxHeartbeats 1000000 in
theorem z23 (I : Inp) (w0 : World) (hA : I.At w0) (hF : I.Fine) (hlp : I.lp ≤ 4096) (hlt : I.lt ≤ 4096) (hlr : I.lr ≤ 4096) (htot : tot I I.lr ≤ 4096) (psB mbB tsB rsB : Nat) (B : MB) (rqv wtv : Value) (a : Act) (w : World) (hL : Lv3 I psB mbB tsB rsB B I.lr rqv wtv a) (hFin : Fin I w0 psB mbB tsB rsB B rqv wtv w) :
    Code.wp Yba.prog (nav [1, 1, 1, 1, 1, 1, 1, 1, 1, 1, 1, 1, 1, 1, 1, 1, 1, 1, 1, 1, 1, 1, 1] (Yba.f3.body.getD .skip)) (bodyPost Yba.prog Yba.f3 (Post w0)) a w := by
  have hoff : I.D.off I.lr ≤ 4096 := by
    have h3 := sums I I.lr
    unfold tot at htot
    omega
  have hK := hL.kn
  clear hL
  conv => arg 2; whnf
  refine wp_seq ?_
  refine wp_seq ?_
  refine wp_region_lit ?_
  refine kl hK 50 rfl (by decide) rfl (fun ρ hρ => r_assign _ rfl (hρ _ _ rfl)) ?_
  clear hK a; intro a hK
  refine wpList_nil ?_
  show Code.wp Yba.prog _ _ _ _
  refine loop20 I w0 hoff psB mbB tsB rsB B rqv wtv _ _ ?_ a w ⟨Kn.lv3 (hK.sub ⟨rfl, rfl, rfl, rfl, rfl, rfl, rfl, rfl, rfl, rfl, rfl, rfl, rfl, rfl, rfl, rfl, trivial⟩), hFin, 0, Nat.zero_le _, hK.get 50 _ rfl⟩
  rintro a w hL ⟨lab, A, ks, vs, β, hS⟩
  exact z24 I w0 hA hF hlp hlt hlr htot lab A psB mbB tsB rsB B ks vs rqv wtv β a w hL.kn hS

set_option maxRecDepth 100000 in
set_option maxHeartbeats 1000000 in
theorem z22 (I : Inp) (w0 : World) (hA : I.At w0) (hF : I.Fine) (hlp : I.lp ≤ 4096) (hlt : I.lt ≤ 4096) (hlr : I.lr ≤ 4096) (htot : tot I I.lr ≤ 4096) (psB mbB tsB rsB : Nat) (B : MB) (a : Act) (w : World) (h : M10 I w0 psB mbB tsB rsB B a w) :
    Code.wp Yba.prog (nav [1, 1, 1, 1, 1, 1, 1, 1, 1, 1, 1, 1, 1, 1, 1, 1, 1, 1, 1, 1, 1, 1] (Yba.f3.body.getD .skip)) (bodyPost Yba.prog Yba.f3 (Post w0)) a w := by
  conv => arg 2; whnf
  refine wp_seq ?_
  exact x110 I w0 hlr htot psB mbB tsB rsB B _ _ (fun a w rqv wtv hL hFin => z23 I w0 hA hF hlp hlt hlr htot psB mbB tsB rsB B rqv wtv a w hL hFin) a w h

set_option maxRecDepth 100000 in
set_option maxHeartbeats 1000000 in
theorem z21 (I : Inp) (w0 : World) (hA : I.At w0) (hF : I.Fine) (hlp : I.lp ≤ 4096) (hlt : I.lt ≤ 4096) (hlr : I.lr ≤ 4096) (htot : tot I I.lr ≤ 4096) (psB mbB tsB rsB : Nat) (B : MB) (a : Act) (w : World) (hK : Kn 831 ((31, .slice none 0 0) :: (30, .slice none 0 0) :: (29, .slice (some ⟨rsB, 0, none⟩) I.lr I.lr) :: L2 I psB mbB tsB B) a) (hH : HD10 I w0 psB mbB tsB rsB B 0 (.slice none 0 0) (.slice none 0 0) w) :
    Code.wp Yba.prog (nav [1, 1, 1, 1, 1, 1, 1, 1, 1, 1, 1, 1, 1, 1, 1, 1, 1, 1, 1, 1, 1] (Yba.f3.body.getD .skip)) (bodyPost Yba.prog Yba.f3 (Post w0)) a w := by
  conv => arg 2; whnf
  refine wp_seq ?_
  refine wp_seq ?_
  refine wp_region_lit ?_
  refine kl hK 32 rfl (by decide) rfl (fun ρ hρ => r_assign _ rfl (hρ _ _ rfl)) ?_
  clear hK a; intro a hK
  refine wpList_nil ?_
  show Code.wp Yba.prog _ _ _ _
  exact loop10 I w0 hA hF hlp hlt hlr htot psB mbB tsB rsB B _ _ (fun a w h => z22 I w0 hA hF hlp hlt hlr htot psB mbB tsB rsB B a w h) a w ⟨0, .slice none 0 0, .slice none 0 0, Nat.zero_le _, Kn.lv3 (hK.sub ⟨rfl, rfl, rfl, rfl, rfl, rfl, rfl, rfl, rfl, rfl, rfl, rfl, rfl, rfl, rfl, rfl, trivial⟩), hH⟩

set_option maxRecDepth 100000 in
set_option maxHeartbeats 1000000 in
theorem z17 (I : Inp) (w0 : World) (hA : I.At w0) (hF : I.Fine) (hlp : I.lp ≤ 4096) (hlt : I.lt ≤ 4096) (hlr : I.lr ≤ 4096) (htot : tot I I.lr ≤ 4096) (psB mbB tsB : Nat) (B : MB) (a : Act) (w : World) (hL : Lv2 I psB mbB tsB B a) (hT : ∃ ta, TGS I w0 w psB mbB tsB B 0 0 ta (I.σh 0) (I.σh 0)) :
    Code.wp Yba.prog (nav [1, 1, 1, 1, 1, 1, 1, 1, 1, 1, 1, 1, 1, 1, 1, 1, 1] (Yba.f3.body.getD .skip)) (bodyPost Yba.prog Yba.f3 (Post w0)) a w := by
  have hnb : ∀ i, i < I.lt → (I.T i).nb ≤ 4096 := fun i hi => by
    have : (I.T i).nb ≤ sumN (fun i => (I.T i).nb) I.lt := sumN_le (f := fun i => (I.T i).nb) hi
    unfold tot at htot
    omega
  obtain ⟨ta, hT⟩ := hT
  have hK := hL.kn
  clear hL
  conv => arg 2; whnf
  refine wp_seq ?_
  refine wp_seq ?_
  refine wp_region_lit ?_
  refine kl hK 23 rfl (by decide) rfl (fun ρ hρ => r_assign _ rfl (hρ _ _ rfl)) ?_
  clear hK a; intro a hK
  refine wpList_nil ?_
  show Code.wp Yba.prog _ _ _ _
  exact loop6 I w0 hA hF hlp hlt hnb psB mbB tsB B _ _ (fun a w h => y18 I w0 hlr psB mbB tsB B _ (fun a w rsB hK hH => z21 I w0 hA hF hlp hlt hlr htot psB mbB tsB rsB B a w hK hH) a w h) a w ⟨Kn.lv2 (hK.sub ⟨rfl, rfl, rfl, rfl, rfl, rfl, rfl, rfl, rfl, rfl, rfl, rfl, trivial⟩), 0, ta, Nat.zero_le _, hK.get 23 _ rfl, hT⟩

set_option maxRecDepth 100000 in
set_option maxHeartbeats 1000000 in
theorem z9 (I : Inp) (w0 : World) (hA : I.At w0) (hF : I.Fine) (hlp : I.lp ≤ 4096) (hlt : I.lt ≤ 4096) (hlr : I.lr ≤ 4096) (htot : tot I I.lr ≤ 4096) (psB mbB : Nat) (a : Act) (w : World) (hL : Lv1 I psB mbB a) (hP : ∃ lab A, Labs w0 w lab ∧ PG I lab w A psB mbB 0) :
    Code.wp Yba.prog (nav [1, 1, 1, 1, 1, 1, 1, 1, 1] (Yba.f3.body.getD .skip)) (bodyPost Yba.prog Yba.f3 (Post w0)) a w := by
  obtain ⟨lab, A, hLb, hP⟩ := hP
  have hK := hL.kn
  clear hL
  conv => arg 2; whnf
  refine wp_seq ?_
  refine wp_seq ?_
  refine wp_region_lit ?_
  refine kl hK 13 rfl (by decide) rfl (fun ρ hρ => r_assign _ rfl (hρ _ _ rfl)) ?_
  clear hK a; intro a hK
  refine wpList_nil ?_
  show Code.wp Yba.prog _ _ _ _
  exact loop3 I w0 hA hF hlp psB mbB _ (fun a w h => y10 I w0 hlt psB mbB _ (fun a w tsB B hL hT => z17 I w0 hA hF hlp hlt hlr htot psB mbB tsB B a w hL hT) a w h) a w ⟨Kn.lv1 (hK.sub ⟨rfl, rfl, rfl, rfl, rfl, rfl, trivial⟩), 0, lab, A, Nat.zero_le _, hK.get 13 _ rfl, hLb, hP⟩

set_option maxRecDepth 100000 in
set_option maxHeartbeats 1000000 in
theorem z4 (I : Inp) (w0 : World) (hA : I.At w0) (hF : I.Fine) (hlp : I.lp ≤ 4096) (hlt : I.lt ≤ 4096) (hlr : I.lr ≤ 4096) (a : Act) (w : World) (h : M1 I w0 a w) :
    Code.wp Yba.prog (nav [1, 1, 1, 1] (Yba.f3.body.getD .skip)) (bodyPost Yba.prog Yba.f3 (Post w0)) a w := by
  obtain ⟨hL, rfl, hsum, e7⟩ := h
  have hK := hL.kn.add e7
  clear hL e7
  conv => arg 2; whnf
  refine wp_seq ?_
  refine wp_seq ?_
  refine wp_region_lit ?_
  refine kl hK 9 rfl (by decide) rfl (fun ρ hρ => r_assign _ rfl (hρ _ _ rfl)) ?_
  clear hK a; intro a hK
  refine wpList_nil ?_
  show Code.wp Yba.prog _ _ _ _
  refine loop2 I w hA hF _ ?_ a w ⟨Kn.lv0 (hK.sub ⟨rfl, rfl, rfl, trivial⟩), Below.refl _ _, rfl, 0, Nat.zero_le _, hsum, hK.get 7 _ rfl, hK.get 9 _ rfl⟩
  rintro a w' ⟨hL, hb, -, htot⟩
  exact y5 I w hlp _ (fun a w' psB mbB hL hP => z9 I w hA hF hlp hlt hlr htot psB mbB a w' hL hP) a w' hL.kn hb

set_option maxRecDepth 100000 in
set_option maxHeartbeats 1000000 in
theorem z2 (I : Inp) (w0 : World) (hA : I.At w0) (hF : I.Fine) (hlp : I.lp ≤ 4096) (hlt : I.lt ≤ 4096) (hlr : I.lr ≤ 4096) (a : Act) (hL : Lv0 I a) :
    Code.wp Yba.prog (nav [1, 1] (Yba.f3.body.getD .skip)) (bodyPost Yba.prog Yba.f3 (Post w0)) a w0 := by
  have hK := hL.kn
  clear hL
  conv => arg 2; whnf
  refine wp_seq ?_
  refine wp_region_lit ?_
  refine kl hK 7 rfl (by decide) rfl (fun ρ hρ => r_assign _ rfl (hρ _ _ rfl)) ?_
  clear hK a; intro a hK
  refine wpList_nil ?_
  show Code.wp Yba.prog _ _ _ _
  refine wp_seq ?_
  refine wp_seq ?_
  refine wp_region_lit ?_
  refine kl hK 8 rfl (by decide) rfl (fun ρ hρ => r_assign _ rfl (hρ _ _ rfl)) ?_
  clear hK a; intro a hK
  refine wpList_nil ?_
  show Code.wp Yba.prog _ _ _ _
  exact loop1 I w0 hA hF _ (fun a w h => z4 I w0 hA hF hlp hlt hlr a w h) a w0 ⟨Kn.lv0 (hK.sub ⟨rfl, rfl, rfl, trivial⟩), rfl, 0, Nat.zero_le _, Nat.zero_le _, hK.get 7 _ rfl, hK.get 8 _ rfl⟩

set_option maxRecDepth 100000 in
set_option maxHeartbeats 1000000 in
theorem z0 (I : Inp) (w0 : World) (hA : I.At w0) (hF : I.Fine) (a : Act) (hL : Lv0 I a) :
    Code.wp Yba.prog (Yba.f3.body.getD .skip) (bodyPost Yba.prog Yba.f3 (Post w0)) a w0 := by
  have hK := hL.kn
  clear hL
  conv => arg 2; whnf
  refine wp_seq ?_
  refine wp_region_lit ?_
  refine kl hK 6 rfl (by decide) rfl (fun ρ hρ => r_assign _ rfl (hρ _ _ rfl)) ?_
  clear hK a; intro a hK
  refine wpList_nil ?_
  show Code.wp Yba.prog _ _ _ _
  refine wp_seq ?_
  refine y1 I w0 _ ?_ a (Kn.lv0 (hK.sub ⟨rfl, rfl, rfl, trivial⟩))
  intro a hK hlp hlt hlr
  exact z2 I w0 hA hF hlp hlt hlr a hK.lv0

/-- the law's function, at any input that lies there -/
theorem law_any (I : Inp) (w0 : World) (hA : I.At w0) (hF : I.Fine) : Calls Yba.prog 3 #[.slice I.p0 I.lp I.c0, .slice I.p1 I.lt I.c1, .slice I.p2 I.lr I.c2] w0 (Post w0) := by
  refine calls_of_wp (c := Yba.f3.body.getD .skip) Yba.func3 (by kernel_rfl) ?_
  refine z0 I w0 hA hF _ ?_
  have hn : Yba.f3.ntmps = 831 := by kernel_rfl
  rw [hn]
  refine ⟨by simp, rfl, ?_, ?_, ?_⟩
  · rw [Array.getElem?_append_left (by simp)]; rfl
  · rw [Array.getElem?_append_left (by simp)]; rfl
  · rw [Array.getElem?_append_left (by simp)]; rfl
end Go.Proofs.Ybulkeyzg
