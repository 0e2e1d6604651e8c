import Derived.Test.YbulkeyzgC5
import Derived.Test.YbulkeyzgB18
namespace Go.Proofs.Ybulkeyzg
open Go.RowKit

def I12 (I : Inp) (w0 : World) (psB mbB tsB rsB : Nat) (B : MB) (i inB ra : Nat) (σ : Nat → TS) (wt : List Int) (rqv wtv : Value) (a : Act) (w : World) : Prop := LvR I psB mbB tsB rsB B i inB ra rqv wtv a ∧ ∃ j : Nat, j ≤ (I.R i).nh ∧ a.tmps[36]? = some (.int .i64 j) ∧ RSt I w0 w psB mbB tsB rsB B i inB ra i j 0 σ wt rqv wtv
def M12 (I : Inp) (w0 : World) (psB mbB tsB rsB : Nat) (B : MB) (i inB ra : Nat) (σ : Nat → TS) (wt : List Int) (rqv wtv : Value) (a : Act) (w : World) : Prop := LvR I psB mbB tsB rsB B i inB ra rqv wtv a ∧ RSt I w0 w psB mbB tsB rsB B i inB ra i (I.R i).nh 0 σ wt rqv wtv

set_option maxRecDepth 100000 in
set_option maxHeartbeats 4000000 in
theorem loop12 (I : Inp) (w0 : World) (hA : I.At w0) (hF : I.Fine) (hlt : I.lt ≤ 4096) (psB mbB tsB rsB : Nat) (B : MB) (i inB ra : Nat) (hil : i < I.lr) (hnh : (I.R i).nh ≤ 4096) (σ : Nat → TS) (wt : List Int) (rqv wtv : Value) (Q : Exit → Act → World → Prop) (K : Act → World → Prop) (hK : ∀ a w, M12 I w0 psB mbB tsB rsB B i inB ra σ wt rqv wtv a w → K a w) (a : Act) (w : World) (h : I12 I w0 psB mbB tsB rsB B i inB ra σ wt rqv wtv a w) :
    Code.wp Yba.prog (nav [1, 1, 1, 1, 1, 1, 1, 1, 1, 1, 1, 1, 1, 1, 1, 1, 1, 1, 1, 1, 1, 0, 1, 0, 0, 1, 0, 0, 1, 1, 1, 1, 0, 1] (Yba.f3.body.getD .skip)) (Exit.then K Q) a w := by
  refine wp_block_loop K (I12 I w0 psB mbB tsB rsB B i inB ra σ wt rqv wtv) (fun a _ => (I.R i).nh - (intOf (a.tmps.getD 36 undef)).toNat) h ?_
  clear h a w
  intro a w h
  obtain ⟨hL, j, hj, e36, lab, A, ks, vs, hra, hTin, hR⟩ := h
  obtain ⟨x, rfl, hx⟩ := act_fr a hL.size hL.defers
  have e0 := hx _ _ hL.s0
  have e1 := hx _ _ hL.s1
  have e2 := hx _ _ hL.s2
  have e10 := hx _ _ hL.s10
  have e11 := hx _ _ hL.s11
  have e12 := hx _ _ hL.s12
  have e17 := hx _ _ hL.s17
  have e18 := hx _ _ hL.s18
  have e19 := hx _ _ hL.s19
  have e20 := hx _ _ hL.s20
  have e21 := hx _ _ hL.s21
  have e22 := hx _ _ hL.s22
  have e29 := hx _ _ hL.s29
  have e30 := hx _ _ hL.s30
  have e31 := hx _ _ hL.s31
  have e32 := hx _ _ hL.s32
  have e33 := hx _ _ hL.s33
  have e34 := hx _ _ hL.s34
  have e35 := hx _ _ hL.s35
  replace e36 := hx _ _ e36
  clear hx hL
  unfold ptr at e33 e35
  have c3 := hTin.cell 3 _ rfl
  have hAw := hA.below hR.labs.bel
  have HR : Hid (A.ra i = ra ∧ Tmp lab w inB (inL I i) ∧ RS I w0 lab w A psB mbB tsB rsB B ks vs i (i + 1) (upd (NH I) i j) (upd (NW I) i 0) (I.D.off i + 0) (fun t => (σ t).s) (fun t => (σ t).f) (fun t => (σ t).kv) (fun t => (σ t).kv) wt rqv wtv) := ⟨hra, hTin, hR⟩
  clear hR hra hTin
  have hnt0 := I.D_fine.nt
  have hnt : I.D.nt ≤ 4096 := by show (if I.lt = 0 then 1 else I.lt) ≤ 4096; split <;> omega
  obtain ⟨np, hnpe⟩ : ∃ np, np = I.D.np := ⟨_, rfl⟩
  obtain ⟨nt, hnte⟩ : ∃ nt, nt = I.D.nt := ⟨_, rfl⟩
  have HNP : Hid (np = I.D.np ∧ nt = I.D.nt) := ⟨hnpe, hnte⟩
  rw [← hnpe] at e10 e11 e12
  rw [← hnte] at e17 e18 e19 e20 e21 e22 hnt hnt0
  clear hnpe hnte
  by_cases hjl : j < (I.R i).nh
  · have hJ : (j : Int) < (I.R i).nh := by omega
    have HJL : Hid (j < (I.R i).nh) := hjl
    obtain ⟨b', off', hp', hb', d0, d1, d2, d3⟩ := hAw.held i hil j hjl
    obtain ⟨f1, f2, f3⟩ := hF.h i hil j hjl
    rw [hp'] at c3
    obtain ⟨t, htE⟩ : ∃ t, t = ((I.R i).h j).t := ⟨_, rfl⟩
    obtain ⟨m, hmE⟩ : ∃ m, m = ((I.R i).h j).m := ⟨_, rfl⟩
    obtain ⟨k, hkE⟩ : ∃ k, k = ((I.R i).h j).k := ⟨_, rfl⟩
    obtain ⟨imp, hiE⟩ : ∃ imp, imp = ((I.R i).h j).imp := ⟨_, rfl⟩
    obtain ⟨nh, hnhE⟩ : ∃ nh, nh = (I.R i).nh := ⟨_, rfl⟩
    have HE : Hid (t = ((I.R i).h j).t ∧ m = ((I.R i).h j).m ∧ k = ((I.R i).h j).k ∧ imp = ((I.R i).h j).imp ∧ nh = (I.R i).nh) := ⟨htE, hmE, hkE, hiE, hnhE⟩
    rw [← htE] at d0 f1
    rw [← hmE] at d1
    rw [← hkE] at d2
    rw [← hiE] at d3
    rw [← hnhE] at c3 hj hnh hJ hjl
    clear htE hmE hkE hiE hnhE hp' hAw f2 f3
    simp only [fr, Nat.reduceAdd, e0, e1, e2, e10, e11, e12, e17, e18, e19, e20, e21, e22, e29, e30, e31, e32, e33, e34, e35, e36]
    clear e0 e1 e2 e10 e11 e12 e17 e18 e19 e20 e21 e22 e29 e30 e31 e32 e33 e34 e35 e36
    go_upto_region 75 with fail
    clear c3 d0 d1 d2 d3 hb'
    have hTH : Tmp lab (w.alloc (.cells #[.int .u8 t, .int .u8 m, .int .u8 k, .bool imp] 74)) w.heap.size [.int .u8 t, .int .u8 m, .int .u8 k, .bool imp] := Tmp.new HR.out.2.2.labs _ _
    have hT1 : Touch (fun _ => False) w (w.alloc (.cells #[.int .u8 t, .int .u8 m, .int .u8 k, .bool imp] 74)) := (Touch.refl _ _).alloc _
    have hF1 : Free lab lab w (w.alloc (.cells #[.int .u8 t, .int .u8 m, .int .u8 k, .bool imp] 74)) := Free.touch hT1 fun _ h => h.elim
    have hR1 := HR.out.2.2.touch0 hT1
    have hTin := HR.out.2.1.free hF1 hT1.size
    generalize w.alloc (.cells #[.int .u8 t, .int .u8 m, .int .u8 k, .bool imp] 74) = W at *
    generalize w.heap.size = hB at *
    have hRi := hR1.recs i (by omega)
    rw [upd_same] at hRi
    have hra := HR.out.1
    obtain ⟨g, r1, -, -, r9, -, -⟩ := hRi.obj.obj
    have c9 := r1.cell (i := 9) (by omega)
    have z9 := r1.frozen 9
    rw [r9, hra] at c9
    rw [hra] at z9
    have hral := r1.lt
    rw [hra] at hral
    have hts := hR1.rts.cell (i := t % nt) (by rw [← HNP.out.2]; exact Nat.mod_lt _ hnt0)
    have hhd := hRi.held
    have hno : some ra ≠ (A.hv i).ownBlock ∧ some hB ≠ (A.hv i).ownBlock ∧ some tsB ≠ (A.hv i).ownBlock := by
      refine ⟨fun e => ?_, fun e => ?_, fun e => ?_⟩
      · have := hhd.2 _ e.symm
        rw [← hra, hRi.tag] at this
        cases this
      · have := hhd.2 _ e.symm
        rw [hTH.tag] at this
        cases this
      · have := hhd.2 _ e.symm
        rw [hR1.tts] at this
        cases this
    refine r75 W _ ra hB tsB nt (A.ta (t % nt)) t m k imp (A.hv i) w0.heap.size j _ rfl hnt0 f1 rfl rfl rfl rfl c9 z9 (hTH.cell 0 _ rfl) (hTH.cell 1 _ rfl) (hTH.cell 2 _ rfl) (hTH.cell 3 _ rfl) hts hral hTH.lt hR1.rts.lt hhd.1 (by omega) hR1.labs.bel.size hno _ ?_
    intro a' w2 g' cap hsz' hdf' hsame hgr hat hgl hown
    have hsz2 : ((W.drew.alloc (.cells #[ptr (A.ta (t % nt)), .int .u8 (m % 3 : Nat), .int .u8 (k % 4 : Nat), ptr ra, .int .i64 0, .bool imp, .bool false] 77)).alloc (.cells #[ptr W.heap.size] 75)).heap.size = W.heap.size + 2 := by show ((W.heap.push _).push _).size = _; simp
    have hTo : Touch (fun _ => False) W ((W.drew.alloc (.cells #[ptr (A.ta (t % nt)), .int .u8 (m % 3 : Nat), .int .u8 (k % 4 : Nat), ptr ra, .int .i64 0, .bool imp, .bool false] 77)).alloc (.cells #[ptr W.heap.size] 75)) := ((Touch.refl _ _).drew.alloc _).alloc _
    have hHO : HObj ((W.drew.alloc (.cells #[ptr (A.ta (t % nt)), .int .u8 (m % 3 : Nat), .int .u8 (k % 4 : Nat), ptr ra, .int .i64 0, .bool imp, .bool false] 77)).alloc (.cells #[ptr W.heap.size] 75)) W.heap.size (A.ta (I.D.ht i j)) (A.ra i) (I.D.hm i j) (I.D.hk i j) ((I.R i).h j).imp := by
      have h1 := (World.rowIs_alloc W.drew #[ptr (A.ta (t % nt)), .int .u8 (m % 3 : Nat), .int .u8 (k % 4 : Nat), ptr ra, .int .i64 0, .bool imp, .bool false] 77 (fun q => (#[ptr (A.ta (t % nt)), .int .u8 (m % 3 : Nat), .int .u8 (k % 4 : Nat), ptr ra, .int .i64 0, .bool imp, .bool false][q]?).getD undef) (fun q hq => by rw [Array.getElem?_eq_getElem hq]; rfl)).alloc (.cells #[ptr W.heap.size] 75)
      refine ⟨_, h1, ?_, ?_, ?_, ?_, ?_⟩
      · show ptr (A.ta (t % nt)) = ptr (A.ta (((I.R i).h j).t % I.D.nt))
        rw [HE.out.1, HNP.out.2]
      · show Value.int .u8 (m % 3 : Nat) = .int .u8 ((((I.R i).h j).m % 3 : Nat) : Int)
        rw [HE.out.2.1]
      · show Value.int .u8 (k % 4 : Nat) = .int .u8 ((((I.R i).h j).k % 4 : Nat) : Int)
        rw [HE.out.2.2.1]
      · show ptr ra = ptr (A.ra i)
        rw [hra]
      · show Value.bool imp = _
        rw [HE.out.2.2.2.1]
    obtain ⟨lab', A', e1, e2, e3, hFr, hR2⟩ := hR1.appHeld (i := i) (by omega) hTo (hb := W.heap.size) (Nat.le_refl _) (by rw [hsz2]; omega) (by rw [upd_same]; exact hHO) hgr (by rw [hsz2]; exact hat) hgl (by rw [upd_same]; exact hown) rfl
    rw [upd_same, upd_upd, hra] at hR2
    rw [upd_same, hra] at hFr
    have hT2 := hTin.free hFr (by rw [setCell_size]; have := hgr.size; rw [hsz2] at this; omega)
    have hra' : A'.ra i = ra := by rw [e3]; exact hra
    have HR2 : Hid (RSt I w0 (w2.setCell ⟨ra, 9, none⟩ (.slice (some ⟨g', 0, none⟩) (j + 1) cap)) psB mbB tsB rsB B i inB ra i (j + 1) 0 σ wt rqv wtv) := ⟨lab', A', ks, vs, hra', hT2, hR2⟩
    have hLv : LvR I psB mbB tsB rsB B i inB ra rqv wtv a' := ⟨⟨⟨⟨hsz', hdf', (hsame 0 (by omega)).trans rfl, (hsame 1 (by omega)).trans rfl, (hsame 2 (by omega)).trans rfl⟩, (hsame 10 (by omega)).trans (by rw [← HNP.out.1]; rfl), (hsame 11 (by omega)).trans (by rw [← HNP.out.1]; rfl), (hsame 12 (by omega)).trans (by rw [← HNP.out.1]; rfl)⟩, (hsame 17 (by omega)).trans (by rw [← HNP.out.2]; rfl), (hsame 18 (by omega)).trans (by rw [← HNP.out.2]; rfl), (hsame 19 (by omega)).trans (by rw [← HNP.out.2]; rfl), (hsame 20 (by omega)).trans (by rw [← HNP.out.2]; rfl), (hsame 21 (by omega)).trans (by rw [← HNP.out.2]; rfl), (hsame 22 (by omega)).trans (by rw [← HNP.out.2]; rfl)⟩, (hsame 29 (by omega)).trans rfl, (hsame 30 (by omega)).trans rfl, (hsame 31 (by omega)).trans rfl, (hsame 32 (by omega)).trans rfl, (hsame 33 (by omega)).trans rfl, (hsame 34 (by omega)).trans rfl, (hsame 35 (by omega)).trans rfl⟩
    have e36 : a'.tmps[36]? = some (.int .i64 j) := (hsame 36 (by omega)).trans rfl
    clear hR2 hT2 hFr hHO hTo hsz2 hgr hat hgl hown hsame hsz' hdf' hTH hT1 hF1 hR1 hTin hRi hra r1 r9 c9 z9 hral hts hhd hno HR hra' e1 e2 e3
    obtain ⟨x', rfl, hx⟩ := act_fr a' hLv.size hLv.defers
    have e0 := hx _ _ hLv.s0
    have e1 := hx _ _ hLv.s1
    have e2 := hx _ _ hLv.s2
    have e10 := hx _ _ hLv.s10
    have e11 := hx _ _ hLv.s11
    have e12 := hx _ _ hLv.s12
    have e17 := hx _ _ hLv.s17
    have e18 := hx _ _ hLv.s18
    have e19 := hx _ _ hLv.s19
    have e20 := hx _ _ hLv.s20
    have e21 := hx _ _ hLv.s21
    have e22 := hx _ _ hLv.s22
    have e29 := hx _ _ hLv.s29
    have e30 := hx _ _ hLv.s30
    have e31 := hx _ _ hLv.s31
    have e32 := hx _ _ hLv.s32
    have e33 := hx _ _ hLv.s33
    have e34 := hx _ _ hLv.s34
    have e35 := hx _ _ hLv.s35
    replace e36 := hx _ _ e36
    clear hx hLv
    unfold ptr at e33 e35
    rw [← HNP.out.1] at e10 e11 e12
    rw [← HNP.out.2] at e17 e18 e19 e20 e21 e22
    simp only [Exit.inBlock, Exit.then]
    generalize w2.setCell ⟨ra, 9, none⟩ (.slice (some ⟨g', 0, none⟩) (j + 1) cap) = W9 at *
    simp only [fr, Nat.reduceAdd, e0, e1, e2, e10, e11, e12, e17, e18, e19, e20, e21, e22, e29, e30, e31, e32, e33, e34, e35, e36]
    clear e0 e1 e2 e10 e11 e12 e17 e18 e19 e20 e21 e22 e29 e30 e31 e32 e33 e34 e35 e36
    go_wp2_with fail
    refine ⟨⟨⟨⟨⟨⟨rfl, rfl, rfl, rfl, rfl⟩, by rw [← HNP.out.1]; rfl, by rw [← HNP.out.1]; rfl, by rw [← HNP.out.1]; rfl⟩, by rw [← HNP.out.2]; rfl, by rw [← HNP.out.2]; rfl, by rw [← HNP.out.2]; rfl, by rw [← HNP.out.2]; rfl, by rw [← HNP.out.2]; rfl, by rw [← HNP.out.2]; rfl⟩, rfl, rfl, rfl, rfl, rfl, rfl, rfl⟩, j + 1, by have := HJL.out; omega, rfl, HR2.out⟩, ?_⟩
    show (I.R i).nh - (intOf (.int .i64 ((j : Int) + 1))).toNat < (I.R i).nh - (intOf (.int .i64 (j : Int))).toNat
    have := HJL.out
    simp [intOf]
    omega
  · have hJ : ¬ (j : Int) < (I.R i).nh := by omega
    have hje : j = (I.R i).nh := by omega
    simp only [fr, Nat.reduceAdd, e0, e1, e2, e10, e11, e12, e17, e18, e19, e20, e21, e22, e29, e30, e31, e32, e33, e34, e35, e36]
    clear e0 e1 e2 e10 e11 e12 e17 e18 e19 e20 e21 e22 e29 e30 e31 e32 e33 e34 e35 e36
    go_wp2_with fail
    refine ⟨⟨⟨⟨⟨rfl, rfl, rfl, rfl, rfl⟩, by rw [← HNP.out.1]; rfl, by rw [← HNP.out.1]; rfl, by rw [← HNP.out.1]; rfl⟩, by rw [← HNP.out.2]; rfl, by rw [← HNP.out.2]; rfl, by rw [← HNP.out.2]; rfl, by rw [← HNP.out.2]; rfl, by rw [← HNP.out.2]; rfl, by rw [← HNP.out.2]; rfl⟩, rfl, rfl, rfl, rfl, rfl, rfl, rfl⟩, lab, A, ks, vs, HR.out.1, HR.out.2.1, ?_⟩
    have := HR.out.2.2
    rw [hje] at this
    exact this
end Go.Proofs.Ybulkeyzg
