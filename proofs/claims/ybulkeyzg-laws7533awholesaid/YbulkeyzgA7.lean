import Derived.Test.YbulkeyzgA6
namespace Go.Proofs.Ybulkeyzg
open Go.RowKit

/-- the requests' bits -/
def QAt (lab : Lab) (w : World) (D : Dat) (A : Adr) (n : Nat) (β : Nat → Int) : Prop :=
  ∀ i, i < n → ∀ j, j < (D.R i).nw → lab (A.qa (D.off i + j)) = some (5, D.off i + j, 0) ∧ QObj w (A.qa (D.off i + j)) (A.ta (D.qt i j)) (β (D.off i + j))
theorem QAt.same {lab : Lab} {K : Nat → Prop} {w w' : World} {D : Dat} {A : Adr} {n : Nat} {β : Nat → Int} (h : QAt lab w D A n β) (hs : Same lab K w w') (hk : K 5) : QAt lab w' D A n β :=
  fun i hi j hj => ⟨(h i hi j hj).1, (h i hi j hj).2.of_block (hs _ _ (h i hi j hj).1 hk)⟩
theorem QAt.step {lab : Lab} {w : World} {D : Dat} {A : Adr} {n : Nat} {β : Nat → Int} (h : QAt lab w D A n β) {q : Nat} (hq : lab (A.qa q) = some (5, q, 0)) (b : Int) : QAt lab (w.setCell ⟨A.qa q, 6, none⟩ (.int .i64 b)) D A n (upd β q b) := fun i hi j hj => by
  obtain ⟨h1, h2⟩ := h i hi j hj
  refine ⟨h1, ?_⟩
  by_cases e : D.off i + j = q
  · rw [e, upd_same]
    rw [e] at h2
    exact h2.set b
  · rw [upd_other _ _ e]
    refine h2.of_block (Go.Deep.blk_setCell_other _ _ _ _ fun e1 => e ?_)
    rw [e1, hq] at h1
    cases h1; rfl

/-- the groups that moveLocks turns -/
def Turns (lab : Lab) (b : Nat) : Prop := ∃ x, lab b = some x ∧ (x.1 = 2 ∨ x.1 = 5)

structure MInv (lab : Lab) (w0 : World) (D : Dat) (A : Adr) (σ : Nat → TS) (outs : List Int) (q : Nat) (w : World) : Prop where
  touch : Touch (Turns lab) w0 w
  trx : TrxAt lab w D A D.nt σ
  req : ∃ β, QAt lab w D A D.lr β ∧ ∀ x, x < q → outs[x]? = some (β x)

theorem MInv.keep {lab : Lab} {w0 w w' : World} {D : Dat} {A : Adr} {σ : Nat → TS} {outs : List Int} {q t : Nat} {τ : TS} (h : MInv lab w0 D A σ outs q w) (hl : ∀ b x, lab b = some x → b < w0.heap.size) (ht : t < D.nt)
    (hT : TObj w' A.pa (A.ta t) (A.ma t) τ) (ha : All (Ok D.np) τ.kv) (ht' : Touch (fun b => b = A.ta t ∨ b = A.ma t) w w') : MInv lab w0 D A (upd σ t τ) outs q w' := by
  obtain ⟨g1, g2, _⟩ := h.trx t ht
  refine ⟨h.touch.trans (ht'.mono fun b _ hb => ?_), h.trx.step hT ha ht' ht, ?_⟩
  · rcases hb with rfl | rfl
    · exact ⟨_, g1, .inl rfl⟩
    · exact ⟨_, g2, .inl rfl⟩
  · obtain ⟨β, h1, h2⟩ := h.req
    refine ⟨β, h1.same (K := fun g => g = 5) (Same.of_touch ht' (fun b x hb => Nat.lt_of_lt_of_le (hl b x hb) h.touch.size) fun b x hb hk hS => ?_) rfl, h2⟩
    rcases hS with rfl | rfl
    · rw [g1] at hb; cases hb; cases hk
    · rw [g2] at hb; cases hb; cases hk
theorem MInv.setQ {lab : Lab} {w0 w : World} {D : Dat} {A : Adr} {σ : Nat → TS} {outs : List Int} {q : Nat} {b : Int} (h : MInv lab w0 D A σ outs q w) (hl : ∀ b x, lab b = some x → b < w0.heap.size) (hq : lab (A.qa q) = some (5, q, 0)) (ho : outs[q]? = some b) :
    MInv lab w0 D A σ outs (q + 1) (w.setCell ⟨A.qa q, 6, none⟩ (.int .i64 b)) := by
  refine ⟨h.touch.setCell (.inl ⟨_, hq, .inr rfl⟩) _, h.trx.same (K := fun g => g = 2) (Same.of_touch (S := fun b => b = A.qa q) (Touch.setCell (S := fun b => b = A.qa q) (Touch.refl _ _) (.inl rfl) _) (fun b x hb => Nat.lt_of_lt_of_le (hl b x hb) h.touch.size) fun b x hb hk hS => ?_) rfl, ?_⟩
  · subst hS
    rw [hq] at hb; cases hb; cases hk
  · obtain ⟨β, h1, h2⟩ := h.req
    refine ⟨_, h1.step hq b, fun x hx => ?_⟩
    by_cases e : x = q
    · subst e; rw [upd_same]; exact ho
    · rw [upd_other _ _ e]; exact h2 x (by omega)
theorem MInv.drewN {lab : Lab} {w0 w : World} {D : Dat} {A : Adr} {σ : Nat → TS} {outs : List Int} {q : Nat} (h : MInv lab w0 D A σ outs q w) (n : Nat) : MInv lab w0 D A σ outs q (w.drewN n) :=
  ⟨h.touch.drewN n, fun t ht => ⟨(h.trx t ht).1, (h.trx t ht).2.1, (h.trx t ht).2.2.1.drewN n, (h.trx t ht).2.2.2⟩, by
    obtain ⟨β, h1, h2⟩ := h.req
    exact ⟨β, fun i hi j hj => ⟨(h1 i hi j hj).1, ⟨(h1 i hi j hj).2.obj⟩⟩, h2⟩⟩

theorem Dat.Ok_key {D : Dat} (hF : D.Fine) (i j : Nat) : Ok D.np (D.key i j) := by
  refine ⟨Nat.mod_lt _ hF.np, Nat.mod_lt _ (by omega), ?_⟩
  show kd _ _ < 4
  have : D.hk i j < 4 := Nat.mod_lt _ (by omega)
  unfold kd
  split <;> omega
theorem keepT_all {q : Key → Prop} {τ : TS} (h : All q τ.kv) {k : Key} (hk : q k) (heap : Int) (nw : Bool) (b : Int) : All q (keepT τ k heap nw b).kv := by
  unfold keepT
  split
  · exact h
  · exact h.put hk

/-- what lies still, at every world that moveLocks passes -/
structure Still (lab : Lab) (w : World) (N : Nat) (D : Dat) (A : Adr) (rsB : Nat) : Prop where
  rs : lab rsB = some (1, 0, 0)
  rrs : w.rowIs rsB 39 D.lr (fun i => ptr (A.ra i))
  pages : PagesAt lab w D A D.np
  recs : ∀ i, i < D.lr → RecAt lab w N D A i (D.R i).nh (D.R i).nw
theorem Still.same {lab : Lab} {K : Nat → Prop} {w w' : World} {N : Nat} {D : Dat} {A : Adr} {rsB : Nat} (h : Still lab w N D A rsB) (hs : Same lab K w w') (hk : K 1) : Still lab w' N D A rsB :=
  ⟨h.rs, h.rrs.of_block (hs _ _ h.rs hk), h.pages.same hs hk, fun i hi => (h.recs i hi).same hs hk⟩

theorem Still.turn {lab : Lab} {w w' : World} {N : Nat} {D : Dat} {A : Adr} {rsB : Nat} (h : Still lab w N D A rsB) (hl : ∀ b x, lab b = some x → b < w.heap.size) (ht : Touch (Turns lab) w w') : Still lab w' N D A rsB :=
  h.same (K := fun g => g = 1) (Same.of_touch ht hl (fun b x hb hk hT => by
    obtain ⟨y, h1, h2⟩ := hT
    rw [hb] at h1
    cases h1
    omega)) rfl

set_option maxRecDepth 20000 in
set_option maxHeartbeats 1000000 in
theorem moveLocks_any (lab : Lab) (w : World) (N : Nat) (D : Dat) (A : Adr) (rsB c : Nat) (σ : Nat → TS) (β : Nat → Int) (hF : D.Fine) (hlab : ∀ b x, lab b = some x → b < w.heap.size) (hS : Still lab w N D A rsB)
    (hT : TrxAt lab w D A D.nt σ) (hQ : QAt lab w D A D.lr β) (hlr : D.lr ≤ 4096) (hnh : ∀ i, i < D.lr → (D.R i).nh ≤ 4096) (hnw : ∀ i, i < D.lr → (D.R i).nw ≤ 4096) :
    Calls Yba.prog 8 #[.slice (some ⟨rsB, 0, none⟩) D.lr c] w fun e w' => e = .returned (.tuple #[]) ∧ MInv lab w D A (D.N σ D.lr) (D.outs σ D.lr) (D.off D.lr) w' := by
  obtain ⟨lr, hlr'⟩ : ∃ lr, lr = D.lr := ⟨_, rfl⟩
  have HLR : Hid (lr = D.lr) := hlr'
  have HI0 : Hid (MInv lab w D A (D.N σ 0) (D.outs σ D.lr) (D.off 0) w) := ⟨Touch.refl _ _, hT, β, hQ, fun x hx => by simp [Dat.off] at hx⟩
  have HS : Hid (Still lab w N D A rsB ∧ ∀ b x, lab b = some x → b < w.heap.size) := ⟨hS, hlab⟩
  have HB : Hid ((∀ i, i < D.lr → (D.R i).nh ≤ 4096) ∧ (∀ i, i < D.lr → (D.R i).nw ≤ 4096) ∧ D.Fine) := ⟨hnh, hnw, hF⟩
  clear hS hT hQ hnh hnw hF hlab
  rw [← hlr'] at hlr ⊢
  have HF : Hid (∀ w', MInv lab w D A (D.N σ lr) (D.outs σ lr) (D.off lr) w' → MInv lab w D A (D.N σ lr) (D.outs σ lr) (D.off lr) w') := fun _ h => h
  rw [← HLR.out] at HI0
  clear hlr' HF
  go_enter Yba.func8, Yba.ntmps8
  go_wp2_with fail
  go_loopw [10] (fun s wr => ∃ i : Nat, i ≤ lr ∧ s = .int .i64 i ∧ MInv lab w D A (D.N σ i) (D.outs σ lr) (D.off i) wr) (fun s _ => lr - (intOf s).toNat)
  case atStart => exact ⟨0, by omega, rfl, HI0.out⟩
  case round =>
    obtain ⟨i, hi, rfl, hM⟩ := hrel
    have HM : Hid (MInv lab w D A (D.N σ i) (D.outs σ lr) (D.off i) wr) := hM
    clear hM
    by_cases hin : i < lr
    · have hI : (i : Int) < lr := by omega
      have hiD : i < D.lr := by rw [← HLR.out]; exact hin
      have hSr := HS.out.1.turn HS.out.2 HM.out.touch
      have hRi := hSr.recs i hiD
      have c0 := hSr.rrs.cell hiD
      obtain ⟨f, r1, -, -, r9, r10, -⟩ := hRi.obj
      have c9 := r1.cell (i := 9) (by omega)
      have c10 := r1.cell (i := 10) (by omega)
      obtain ⟨a9, b9, e9⟩ := hRi.held.slice
      obtain ⟨a10, b10, e10⟩ := hRi.wait.slice
      rw [r9, e9] at c9
      rw [r10, e10] at c10
      unfold ptr at c0
      obtain ⟨R, hR⟩ : ∃ R, R = A.ra i := ⟨_, rfl⟩
      rw [← hR] at c0 c9 c10
      obtain ⟨nh, hnh⟩ : ∃ nh, nh = (D.R i).nh := ⟨_, rfl⟩
      obtain ⟨nw, hnw⟩ : ∃ nw, nw = (D.R i).nw := ⟨_, rfl⟩
      rw [← hnh] at c9
      rw [← hnw] at c10
      have HE : Hid (R = A.ra i ∧ nh = (D.R i).nh ∧ nw = (D.R i).nw ∧ A.hv i = .slice a9 (D.R i).nh b9 ∧ A.wv i = .slice a10 (D.R i).nw b10 ∧ i < D.lr) := ⟨hR, hnh, hnw, e9, e10, hiD⟩
      have HN : Hid (nh ≤ 4096 ∧ nw ≤ 4096) := ⟨by rw [hnh]; exact HB.out.1 i hiD, by rw [hnw]; exact HB.out.2.1 i hiD⟩
      have hnh4 := HN.out.1
      have hnw4 := HN.out.2
      clear hR hnh hnw e9 e10 hiD hSr hRi r1 r9 r10
      clear c10
      go_wp2_with fail
      clear c0 c9
      go_loopw [19] (fun s wx => ∃ j : Nat, j ≤ nh ∧ s = .int .i64 j ∧ MInv lab w D A (D.hN i (D.N σ i) j) (D.outs σ lr) (D.off i) wx) (fun s _ => nh - (intOf s).toNat)
      case atStart => exact ⟨0, by omega, rfl, HM.out⟩
      case round =>
        rename World => wx
        obtain ⟨j, hj, rfl, hMx⟩ := hrel
        have HX : Hid (MInv lab w D A (D.hN i (D.N σ i) j) (D.outs σ lr) (D.off i) wx) := hMx
        clear hMx
        by_cases hjn : j < nh
        · have hJ : (j : Int) < nh := by omega
          obtain ⟨eR, enh, enw, ehv, ewv, hiD⟩ := HE.out
          have hjD : j < (D.R i).nh := by rw [← enh]; exact hjn
          have hSx := HS.out.1.turn HS.out.2 HX.out.touch
          have hRi := hSx.recs i hiD
          obtain ⟨g, cp, u, hv1, hu, hcell, -, -, hgl⟩ := hRi.held.cell hjD
          rw [ehv] at hv1
          cases hv1
          have hu' : u = ptr (A.ha i j) := by simpa [hjD] using hu.symm
          subst hu'
          unfold ptr at hcell
          obtain ⟨htag, hO⟩ := hRi.hobj j hjD
          obtain ⟨f, o1, o2, o3, o4, -, o6⟩ := hO
          have d0 := o1.cell (i := 0) (by omega)
          have d1 := o1.cell (i := 1) (by omega)
          have d2 := o1.cell (i := 2) (by omega)
          have d5 := o1.cell (i := 5) (by omega)
          rw [o2] at d0
          rw [o3] at d1
          rw [o4] at d2
          rw [o6] at d5
          unfold ptr at d0
          have hHlt := o1.lt
          obtain ⟨ht0, hm0, hTO, hAll⟩ := HX.out.trx (D.ht i j) (Nat.mod_lt _ HB.out.2.2.nt)
          have hC := keep_any wx.drew A.pa D.np (A.ta (D.ht i j)) (A.ma (D.ht i j)) (A.ra i) (D.p i) (D.pr (D.p i)) (D.pf (D.p i)) (D.hN i (D.N σ i) j (D.ht i j)) (D.R i).heap (D.R i).sup (A.hv i) a10 (D.R i).nw b10 ⟨hTO.obj, hTO.map⟩ ⟨hSx.pages.apart.cells, hSx.pages.apart.inj⟩ hAll
            (Nat.mod_lt _ HB.out.2.2.np) (hSx.pages _ (Nat.mod_lt _ HB.out.2.2.np)).2 (HB.out.2.2.pr _) (HB.out.2.2.pf _) (by have := hRi.obj.obj; rw [ewv] at this; exact ⟨this⟩) (D.hm i j) (D.hk i j) (Nat.mod_lt _ (by omega)) (Nat.mod_lt _ (by omega))
            (fun p hp e => by have := (hSx.pages p hp).1; rw [e, ht0] at this; cases this) (fun p hp e => by have := (hSx.pages p hp).1; rw [e, hm0] at this; cases this) (fun e => by have := hRi.tag; rw [e, ht0] at this; cases this)
          have HNT : Hid (A.ha i j ≠ A.ta (D.ht i j) ∧ A.ha i j ≠ A.ma (D.ht i j)) := ⟨(fun e => by rw [e, ht0] at htag; cases htag), (fun e => by rw [e, hm0] at htag; cases htag)⟩
          have HTT : Hid (lab (A.ta (D.ht i j)) = some (2, 0, D.ht i j)) := ht0
          rw [← eR] at hC
          have HKA : Hid (All (Ok D.np) (keepT (D.hN i (D.N σ i) j (D.ht i j)) (D.key i j) (D.R i).heap ((D.R i).nw == 0) (D.b i)).kv) := keepT_all hAll (D.Ok_key HB.out.2.2 i j) _ _ _
          obtain ⟨ha, hha⟩ : ∃ ha, ha = A.ha i j := ⟨_, rfl⟩
          have HHA : Hid (ha = A.ha i j) := hha
          rw [← hha] at hcell d0 d1 d2 d5 HNT hHlt
          clear hha eR enh enw ehv ewv hiD hjD hSx hRi hu htag o1 o2 o3 o4 o6 ht0 hm0 hTO hAll
          by_cases himp : ((D.R i).h j).imp = true
          · rw [himp] at d5
            have HST : Hid (D.hN i (D.N σ i) (j + 1) = D.hN i (D.N σ i) j) := by
              show D.hStep i j _ = _
              unfold Dat.hStep
              rw [if_pos himp]
            clear himp hC d0 d1 d2
            go_wp2_with fail
            go_roundw
            case rel => exact ⟨j + 1, by omega, by go_num, by rw [HST.out]; exact HX.out⟩
            case measure => simp [intOf]; omega
          · rw [Bool.not_eq_true] at himp
            rw [himp] at d5
            have HST : Hid (D.hN i (D.N σ i) (j + 1) = upd (D.hN i (D.N σ i) j) (D.ht i j) (keepT (D.hN i (D.N σ i) j (D.ht i j)) (D.key i j) (D.R i).heap ((D.R i).nw == 0) (D.b i))) := by
              show D.hStep i j _ = _
              unfold Dat.hStep
              rw [if_neg (by rw [himp]; simp)]
            clear himp
            go_upto_region 7 with fail
            obtain ⟨hn1, hn2⟩ := HNT.out
            go_region_held3 (fun w' => w'.cell? ⟨ha, 0, none⟩ = some (.pointer (some ⟨A.ta (D.ht i j), 0, none⟩)) ∧ w'.cell? ⟨ha, 1, none⟩ = some (.int .u8 (D.hm i j)) ∧ w'.cell? ⟨ha, 2, none⟩ = some (.int .u8 (D.hk i j))) (first | exact ⟨d0, d1, d2⟩ | exact ⟨y0, y1, y2⟩)
              (first
                | (go_at_call 17; refine hC.mono ?_; rintro e V1 ⟨rfl, hT1, t1⟩; have y0 := (World.cell?_of_block (a := ⟨ha, 0, none⟩) (t1.block ha hHlt (fun h => h.elim hn1 hn2))).trans d0; have y1 := (World.cell?_of_block (a := ⟨ha, 1, none⟩) (t1.block ha hHlt (fun h => h.elim hn1 hn2))).trans d1; have y2 := (World.cell?_of_block (a := ⟨ha, 2, none⟩) (t1.block ha hHlt (fun h => h.elim hn1 hn2))).trans d2))
            have HM1 : Hid (MInv lab w D A (D.hN i (D.N σ i) (j + 1)) (D.outs σ lr) (D.off i) V1) := by
              unfold Hid
              rw [HST.out]
              exact (HX.out.drewN 1).keep HS.out.2 (Nat.mod_lt _ HB.out.2.2.nt) hT1 HKA.out t1
            clear hT1 t1 y0 y1 y2 hC d0 d1 d2 d5 hcell HX
            go_wp2_with fail
            go_roundw
            case rel => exact ⟨j + 1, by omega, by go_num, HM1.out⟩
            case measure => simp [intOf]; omega
        · have hJ : ¬ (j : Int) < nh := by omega
          have hjn' : j = nh := by omega
          subst hjn'
          have HH : Hid (MInv lab w D A (D.wN i (D.H σ i) 0) (D.outs σ lr) (D.off i + 0) wx) := by
            have := HX.out
            rw [HE.out.2.1] at this
            exact this
          clear HX
          have hSx := HS.out.1.turn HS.out.2 HH.out.touch
          obtain ⟨eR, enh, enw, ehv, ewv, hiD⟩ := HE.out
          obtain ⟨f, r1, -, -, -, r10, -⟩ := (hSx.recs i hiD).obj
          have c10 := r1.cell (i := 10) (by omega)
          rw [r10, ewv, ← eR, ← enw] at c10
          clear r1 r10 eR enh enw ehv ewv hiD hSx
          go_wp2_with fail
          clear c10
          go_loopw [44] (fun s wy => ∃ q : Nat, q ≤ nw ∧ s = .int .i64 q ∧ MInv lab w D A (D.wN i (D.H σ i) q) (D.outs σ lr) (D.off i + q) wy) (fun s _ => nw - (intOf s).toNat)
          case atStart => exact ⟨0, by omega, rfl, HH.out⟩
          case round =>
            rename World => wy
            obtain ⟨q, hq, rfl, hMy⟩ := hrel
            have HY : Hid (MInv lab w D A (D.wN i (D.H σ i) q) (D.outs σ lr) (D.off i + q) wy) := hMy
            clear hMy
            by_cases hqn : q < nw
            · have hJ' : (q : Int) < nw := by omega
              obtain ⟨eR, enh, enw, ehv, ewv, hiD⟩ := HE.out
              have hqD : q < (D.R i).nw := by rw [← enw]; exact hqn
              have hSx := HS.out.1.turn HS.out.2 HY.out.touch
              have hRi := hSx.recs i hiD
              obtain ⟨g, cp, u, hv1, hu, hcell, -, -, hgl⟩ := hRi.wait.cell hqD
              rw [ewv] at hv1
              cases hv1
              have hu' : u = ptr (A.qa (D.off i + q)) := by simpa [hqD] using hu.symm
              subst hu'
              unfold ptr at hcell
              obtain ⟨f, r1, r2, -, -, -, -⟩ := hRi.obj
              have c2 := r1.cell (i := 2) (by omega)
              rw [r2, ← eR] at c2
              have hRlt := r1.lt
              rw [← eR] at hRlt
              obtain ⟨β, hQ, -⟩ := HY.out.req
              obtain ⟨htag, hO⟩ := hQ i hiD q hqD
              have HTG : Hid (lab (A.qa (D.off i + q)) = some (5, D.off i + q, 0)) := htag
              obtain ⟨f, o1, o2, o6⟩ := hO
              have d0 := o1.cell (i := 0) (by omega)
              have d6 := o1.cell (i := 6) (by omega)
              have z6 := o1.frozen 6
              rw [o2] at d0
              rw [o6] at d6
              unfold ptr at d0
              have hQlt := o1.lt
              obtain ⟨ht0, hm0, hTO, hAll⟩ := HY.out.trx (D.qt i q) (Nat.mod_lt _ HB.out.2.2.nt)
              have hC := newStruct_any wy.drew A.pa (A.ta (D.qt i q)) (A.ma (D.qt i q)) (A.pa (D.p i)) (D.pr (D.p i)) (D.pf (D.p i)) (D.wN i (D.H σ i) q (D.qt i q)) ⟨hTO.obj, hTO.map⟩ (hSx.pages _ (Nat.mod_lt _ HB.out.2.2.np)).2 (HB.out.2.2.pr _) (HB.out.2.2.pf _)
              have HNT : Hid (A.qa (D.off i + q) ≠ A.ta (D.qt i q) ∧ R ≠ A.ta (D.qt i q)) := ⟨(fun e => by rw [e, ht0] at htag; cases htag), (fun e => by have := hRi.tag; rw [← eR, e, ht0] at this; cases this)⟩
              have HAL : Hid (All (Ok D.np) (newT (D.wN i (D.H σ i) q (D.qt i q)) (D.b i)).kv) := hAll
              have HOUT : Hid ((D.outs σ lr)[D.off i + q]? = some (newB (D.wN i (D.H σ i) q (D.qt i q)).f (D.b i))) := D.outs_at σ hin hqD
              obtain ⟨qa, hqa⟩ : ∃ qa, qa = A.qa (D.off i + q) := ⟨_, rfl⟩
              have HQA : Hid (qa = A.qa (D.off i + q)) := hqa
              rw [← hqa] at hcell d0 d6 z6 HNT hQlt
              clear hqa eR enh enw ehv ewv hiD hqD hSx hRi hu htag o1 o2 o6 ht0 hm0 hTO hAll r1 r2 hQ
              go_upto_region 12 with fail
              obtain ⟨hn1, hn2⟩ := HNT.out
              go_region_held3 (fun w' => w'.cell? ⟨qa, 0, none⟩ = some (.pointer (some ⟨A.ta (D.qt i q), 0, none⟩)) ∧ w'.cell? ⟨R, 2, none⟩ = some (.pointer (some ⟨A.pa (D.p i), 0, none⟩))) (first | exact ⟨d0, c2⟩ | exact ⟨y0, y1⟩ | (simp [go_sem, y0, y1]))
                (first
                  | (go_at_call 18; refine hC.mono ?_; rintro e V1 ⟨rfl, hT1, t1⟩; have y0 := (World.cell?_of_block (a := ⟨qa, 0, none⟩) (t1.block qa hQlt hn1)).trans d0; have y1 := (World.cell?_of_block (a := ⟨R, 2, none⟩) (t1.block R hRlt hn2)).trans c2; have y6 := (World.cell?_of_block (a := ⟨qa, 6, none⟩) (t1.block qa hQlt hn1)).trans d6; have x6 := (World.frozen?_of_block (a := ⟨qa, 6, none⟩) (t1.block qa hQlt hn1)).trans z6))
              go_wp2_with fail
              refine ⟨⟨q + 1, by omega, by go_num, ?_⟩, by simp [intOf]; omega⟩
              have h1 := (HY.out.drewN 1).keep HS.out.2 (Nat.mod_lt _ HB.out.2.2.nt) hT1 HAL.out (t1.mono fun _ _ h => .inl h)
              have h2 := h1.setQ HS.out.2 HTG.out HOUT.out
              rw [HQA.out]
              exact h2
            · have hJ' : ¬ (q : Int) < nw := by omega
              have hqn' : q = nw := by omega
              subst hqn'
              have HZ : Hid (MInv lab w D A (D.N σ (i + 1)) (D.outs σ lr) (D.off (i + 1)) wy) := by
                have := HY.out
                rw [HE.out.2.2.1] at this
                exact this
              clear HY HH HM
              go_wp2_with fail
              go_roundw
              case rel => exact ⟨i + 1, by omega, by go_num, HZ.out⟩
              case measure => simp [intOf]; omega
    · have hI : ¬ (i : Int) < lr := by omega
      have : i = lr := by omega
      subst this
      go_wp2_with fail
      go_end0
      exact ⟨rfl, HM.out⟩
end Go.Proofs.Ybulkeyzg
