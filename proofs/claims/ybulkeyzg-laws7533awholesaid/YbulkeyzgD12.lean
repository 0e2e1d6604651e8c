import Derived.Test.YbulkeyzgD11
namespace Go.Proofs.Ybulkeyzg
open Go.RowKit

/-- the cells of a new record -/
def recC (pp : Nat) (z : Int) : Array Value := #[.pointer none, .slice none 0 0, ptr pp, .int .i64 0, .int .i64 z, .pointer none, .slice none 0 0, .pointer none, .int .i64 0, .slice none 0 0, .slice none 0 0, .int .i64 0, .int .i64 0, .pointer none]
section
variable {ρ : Operand → Value} {o : Oper} {w : World}
theorem r_b72 (x y : Operand) (ho : o.op = .build 72 #[(2, x), (4, y)]) {pp : Nat} {z : Int} (h : ρ x = ptr pp) (h' : ρ y = .int .i64 z) :
    (execOp ρ o).run Yba.prog w = .ok (.value (.agg (recC pp z))) w := by
  unfold recC
  unfold ptr at *
  have u3 := Yba.underlying72
  unfold execOp; rw [ho]; simp only; go_simp
theorem r_bsl69 (ho : o.op = .buildSlice 69 0 #[]) : (execOp ρ o).run Yba.prog w = .ok (.value (.slice (some ⟨w.heap.size, 0, none⟩) 0 0)) (w.alloc (.cells #[] 198)) := by
  have u3 := Yba.underlying69
  unfold execOp; rw [ho]; simp only; go_simp
theorem r_not (x : Operand) (ho : o.op = .unOp .not 4 x) {b : Bool} (h : ρ x = .bool b) : (execOp ρ o).run Yba.prog w = .ok (.value (.bool !b)) w := by
  have u3 := Yba.underlying4
  unfold execOp; rw [ho]; simp only; go_simp
theorem r_f31 (k : Nat) (hk : k = 1 ∨ k = 2) (x : Operand) (ho : o.op = .fieldAddr 31 x k) {b : Nat} (h : ρ x = .pointer (some ⟨b, 0, none⟩)) : (execOp ρ o).run Yba.prog w = .ok (.value (.pointer (some ⟨b, k, none⟩))) w := by
  have u := Yba.underlying31
  rcases hk with rfl | rfl
  · unfold execOp; rw [ho]; simp only; go_simp
  · unfold execOp; rw [ho]; simp only; go_simp
theorem r_f72k (x : Operand) (ho : o.op = .fieldAddr 72 x 1) {b : Nat} (h : ρ x = .pointer (some ⟨b, 0, none⟩)) : (execOp ρ o).run Yba.prog w = .ok (.value (.pointer (some ⟨b, 1, none⟩))) w := by
  unfold execOp; rw [ho]; simp only; have u := Yba.underlying72; go_simp
theorem r_store69 (x y : Operand) (ho : o.op = .store 69 x y) {b q g n c : Nat} {v' : Value} (h : ρ x = .pointer (some ⟨b, q, none⟩)) (h' : ρ y = .slice (some ⟨g, 0, none⟩) n c) (hc : w.cell? ⟨b, q, none⟩ = some v') (hz : w.frozen? ⟨b, q, none⟩ = false) : (execOp ρ o).run Yba.prog w = .ok .skip (w.setCell ⟨b, q, none⟩ (.slice (some ⟨g, 0, none⟩) n c)) := by
  have u3 := Yba.underlying69
  unfold execOp; rw [ho]; simp only; go_simp
theorem r_idx32 (x y : Operand) (ho : o.op = .indexAddr 32 x y) {b n c i : Nat} (hi : i < n) (h : ρ x = .slice (some ⟨b, 0, none⟩) n c) (h' : ρ y = .int .i64 i) : (execOp ρ o).run Yba.prog w = .ok (.value (.pointer (some ⟨b, i, none⟩))) w := by
  have u3 := Yba.underlying32
  have u4 := Yba.underlying37
  have h0 : (0 : Int) ≤ i := by omega
  have h1 : (i : Int) < n := by omega
  unfold execOp; rw [ho]; simp only; go_simp
theorem r_load37 (x : Operand) (ho : o.op = .load 37 x) {b q : Nat} (h : ρ x = .pointer (some ⟨b, q, none⟩)) {v : Value} (hc : w.cell? ⟨b, q, none⟩ = some v) : (execOp ρ o).run Yba.prog w = .ok (.value v) w := by
  have u1 := Yba.underlying37
  unfold execOp; rw [ho]; simp only; go_simp
theorem r_box72 (x : Operand) (ho : o.op = .box 72 x) {cs : Array Value} (h : ρ x = .agg cs) : (execOp ρ o).run Yba.prog w = .ok (.value (ptr w.heap.size)) (w.alloc (.cells cs 72)) := by
  unfold ptr
  unfold execOp; rw [ho]; simp only; go_simp
end

/-- the slots at the head of loop 10 -/
structure Lv3 (I : Inp) (psB mbB tsB rsB : Nat) (B : MB) (i : Nat) (rqv wtv : Value) (a : Act) : Prop extends Lv2 I psB mbB tsB B a where
  s29 : a.tmps[29]? = some (.slice (some ⟨rsB, 0, none⟩) I.lr I.lr)
  s30 : a.tmps[30]? = some rqv
  s31 : a.tmps[31]? = some wtv
  s32 : a.tmps[32]? = some (.int .i64 i)
theorem Lv3.to {I : Inp} {psB mbB tsB rsB : Nat} {B : MB} {i inB ra : Nat} {rqv wtv : Value} {a a' : Act} (h : Lv3 I psB mbB tsB rsB B i rqv wtv a) (hs : a'.tmps.size = 831) (hd : a'.defers = []) (hq : ∀ q, q < 33 → a'.tmps[q]? = a.tmps[q]?) (e33 : a'.tmps[33]? = some (ptr inB)) (e34 : a'.tmps[34]? = some (.int .i64 (I.D.p i))) (e35 : a'.tmps[35]? = some (ptr ra)) : LvR I psB mbB tsB rsB B i inB ra rqv wtv a' :=
  ⟨⟨⟨⟨hs, hd, (hq 0 (by omega)).trans h.s0, (hq 1 (by omega)).trans h.s1, (hq 2 (by omega)).trans h.s2⟩, (hq 10 (by omega)).trans h.s10, (hq 11 (by omega)).trans h.s11, (hq 12 (by omega)).trans h.s12⟩, (hq 17 (by omega)).trans h.s17, (hq 18 (by omega)).trans h.s18, (hq 19 (by omega)).trans h.s19, (hq 20 (by omega)).trans h.s20, (hq 21 (by omega)).trans h.s21, (hq 22 (by omega)).trans h.s22⟩, (hq 29 (by omega)).trans h.s29, (hq 30 (by omega)).trans h.s30, (hq 31 (by omega)).trans h.s31, (hq 32 (by omega)).trans h.s32, e33, e34, e35⟩

set_option maxRecDepth 100000 in
set_option maxHeartbeats 4000000 in
theorem x3 (I : Inp) (w0 : World) (psB mbB tsB rsB : Nat) (B : MB) (i inB ra : Nat) (σ : Nat → TS) (wt : List Int) (H : RH I w0 i σ wt) (rqv wtv : Value) (Q : Exit → Act → World → Prop) (hQ : ∀ a w, F10 I w0 psB mbB tsB rsB B i inB ra σ wt a w → Q .normal a w) (lab : Lab) (A : Adr) (ks vs : Nat → Value) (w : World) (hR : RS I w0 lab w A psB mbB tsB rsB B ks vs i i (NH I) (NW I) (I.D.off i) (fun t => (σ t).s) (fun t => (σ t).f) (fun t => (σ t).kv) (fun t => (σ t).kv) wt rqv wtv)
    (hTin : Tmp lab w inB (inL I i)) (W : World) (hT : Touch (fun _ => False) w W) (hb1 : w.heap.size ≤ ra) (hb2 : ra < W.heap.size) (hO : RObj W ra (A.pa (I.D.p i)) (I.R i).heap true (.slice none 0 0) (.slice none 0 0)) (a : Act) (hL : LvR I psB mbB tsB rsB B i inB ra rqv wtv a) :
    Code.wp Yba.prog (nav [1, 1, 1, 1, 1, 1, 1, 1, 1, 1, 1, 1, 1, 1, 1, 1, 1, 1, 1, 1, 1, 0, 1, 0, 0, 1, 0, 0, 1, 1, 1] (Yba.f3.body.getD .skip)) Q a W := by
  have hsz := hL.size
  have E33 := ev_of hL.s33
  have E35 := ev_of hL.s35
  have c2 : W.cell? ⟨inB, 2, none⟩ = some (.bool (I.R i).sup) := (World.cell?_of_block (a := ⟨inB, 2, none⟩) (hT.block inB hTin.lt id)).trans (hTin.cell 2 _ rfl)
  have hOf : RObj W ra (A.pa (I.D.p i)) (I.R i).heap true (.slice none 0 0) (.slice none 0 0) := hO
  obtain ⟨g, r1, r2, r4, r9, r10, r0⟩ := hO
  rw [if_pos rfl] at r0
  have c1 := r1.cell (i := 1) (by omega)
  have z1 := r1.frozen 1
  have hfin : ∀ V, Touch (fun _ => False) w V → ra < V.heap.size → RObj V ra (A.pa (I.D.p i)) (I.R i).heap (I.R i).sup (.slice none 0 0) (.slice none 0 0) → RSt I w0 V psB mbB tsB rsB B i inB ra i 0 0 σ wt rqv wtv := fun V h1 h2 h3 => by
    obtain ⟨lab', A', e1, -, -, hFr, hR'⟩ := hR.newRec (Nat.le_refl _) h1 hb1 h2 h3
    exact ⟨lab', A', ks, vs, e1, hTin.free hFr h1.size, hR'⟩
  conv => arg 2; whnf
  refine wp_seq ?_
  refine wp_seq ?_
  refine wp_region_lit ?_
  refine l_val 342 rfl rfl (r_f31 (b := inB) 2 (by simp) (.tmp 33) rfl E33) ?_
  refine l_val 343 rfl rfl (r_load 4 (by simp) (.tmp 342) rfl (by exact ev_same (by (repeat rw [put_size]); rw [hsz]; decide)) c2) ?_
  refine l_val 344 rfl rfl (r_not (b := (I.R i).sup) (.tmp 343) rfl (by exact ev_same (by (repeat rw [put_size]); rw [hsz]; decide))) ?_
  refine wpList_nil ?_
  show Code.wp Yba.prog _ _ _ _
  cases hs : (I.R i).sup with
  | true =>
    refine wp_cond_false (by exact ev_same (by (repeat rw [put_size]); rw [hsz]; decide)) ?_
    refine wp_skip ?_
    show Code.wp Yba.prog _ Q _ _
    exact x4 I w0 psB mbB tsB rsB B i inB ra σ wt H rqv wtv Q hQ _ _ (((hL.put (d := 342) (by omega) _).put (d := 343) (by omega) _).put (d := 344) (by omega) _) (hfin W hT hb2 (by rw [hs]; exact hOf))
  | false =>
    refine wp_cond_true (by exact ev_same (by (repeat rw [put_size]); rw [hsz]; decide)) ?_
    refine wp_region_lit ?_
    refine l_val 345 rfl rfl (r_move (v := ptr ra) (.tmp 35) rfl (by (iterate 3 (refine Eq.trans (ev_ne (by decide)) ?_)); exact E35)) ?_
    refine l_val 346 rfl rfl (r_bsl69 rfl) ?_
    refine l_val 347 rfl rfl (r_nil (ad := ⟨ra, 0, none⟩) (.tmp 345) rfl (by (iterate 1 (refine Eq.trans (ev_ne (by decide)) ?_)); exact ev_same (by (repeat rw [put_size]); rw [hsz]; decide))) ?_
    refine l_val 348 rfl rfl (r_f72k (b := ra) (.tmp 347) rfl (by exact ev_same (by (repeat rw [put_size]); rw [hsz]; decide))) ?_
    have hbk : (W.alloc (.cells #[] 198)).heap[ra]? = W.heap[ra]? := Go.Deep.blk_alloc_lt W _ _ hb2
    refine l_store rfl rfl (r_store69 (b := ra) (q := 1) (g := W.heap.size) (n := 0) (c := 0) (.tmp 348) (.tmp 346) rfl (by exact ev_same (by (repeat rw [put_size]); rw [hsz]; decide)) (by (iterate 2 (refine Eq.trans (ev_ne (by decide)) ?_)); exact ev_same (by (repeat rw [put_size]); rw [hsz]; decide)) ((World.cell?_of_block (a := ⟨ra, 1, none⟩) hbk).trans c1) ((World.frozen?_of_block (a := ⟨ra, 1, none⟩) hbk).trans z1)) ?_
    refine wpList_nil ?_
    show Code.wp Yba.prog _ Q _ _
    have hTv : Touch (fun _ => False) w ((W.alloc (.cells #[] 198)).setCell ⟨ra, 1, none⟩ (.slice (some ⟨W.heap.size, 0, none⟩) 0 0)) := (hT.alloc _).setCell (.inr hb1) _
    refine x4 I w0 psB mbB tsB rsB B i inB ra σ wt H rqv wtv Q hQ _ _ (((((((hL.put (d := 342) (by omega) _).put (d := 343) (by omega) _).put (d := 344) (by omega) _).put (d := 345) (by omega) _).put (d := 346) (by omega) _).put (d := 347) (by omega) _).put (d := 348) (by omega) _) (hfin _ hTv ?_ ?_)
    · rw [setCell_size]; show _ < (W.heap.push _).size; rw [Array.size_push]; omega
    · rw [hs]
      refine ⟨_, (r1.of_block hbk).set 1 _, by simpa using r2, by simpa using r4, by simpa using r9, by simpa using r10, ?_⟩
      rw [if_neg (by simp)]
      exact ⟨_, _, if_pos rfl⟩

set_option maxRecDepth 100000 in
set_option maxHeartbeats 4000000 in
theorem x2 (I : Inp) (w0 : World) (psB mbB tsB rsB : Nat) (B : MB) (i inB : Nat) (σ : Nat → TS) (wt : List Int) (rqv wtv : Value) (Q : Exit → Act → World → Prop) (K : Act → World → Prop) (w : World) (lab : Lab) (A : Adr) (ks vs : Nat → Value) (hR : RS I w0 lab w A psB mbB tsB rsB B ks vs i i (NH I) (NW I) (I.D.off i) (fun t => (σ t).s) (fun t => (σ t).f) (fun t => (σ t).kv) (fun t => (σ t).kv) wt rqv wtv)
    (hTin : Tmp lab w inB (inL I i)) (hK : ∀ a' W, Touch (fun _ => False) w W → w.heap.size < W.heap.size → RObj W w.heap.size (A.pa (I.D.p i)) (I.R i).heap true (.slice none 0 0) (.slice none 0 0) → LvR I psB mbB tsB rsB B i inB w.heap.size rqv wtv a' → K a' W) (a : Act) (hL : Lv3 I psB mbB tsB rsB B i rqv wtv a) (e33 : a.tmps[33]? = some (ptr inB)) (e34 : a.tmps[34]? = some (.int .i64 (I.D.p i))) :
    Code.wp Yba.prog (nav [1, 1, 1, 1, 1, 1, 1, 1, 1, 1, 1, 1, 1, 1, 1, 1, 1, 1, 1, 1, 1, 0, 1, 0, 0, 1, 0, 0, 1, 1, 0] (Yba.f3.body.getD .skip)) (Exit.then K Q) a w := by
  have hsz := hL.size
  have E11 := ev_of hL.s11
  have E33 := ev_of e33
  have E34 := ev_of e34
  have hpn : I.D.p i < I.D.np := Nat.mod_lt _ I.D_fine.np
  have hps : w.cell? ⟨psB, I.D.p i, none⟩ = some (ptr (A.pa (I.D.p i))) := by
    have := hR.pg.rps.cell (i := I.D.p i) hpn
    rw [upto_lt _ _ hpn] at this
    exact this
  have hin : w.cell? ⟨inB, 1, none⟩ = some (.int .i64 (I.R i).heap) := hTin.cell 1 _ rfl
  conv => arg 2; whnf
  refine wp_region_noPanic ?_
  refine wp_region_held_drew (S := fun w' => w'.cell? ⟨psB, I.D.p i, none⟩ = some (ptr (A.pa (I.D.p i))) ∧ w'.cell? ⟨inB, 1, none⟩ = some (.int .i64 (I.R i).heap)) (by kernel_rfl) ⟨hps, hin⟩ (fun hS0 => ?_)
  refine wpAnyH_take (i := 0) (v := (.slice (some ⟨psB, 0, none⟩) I.D.np I.D.np)) rfl (by kernel_rfl) (by kernel_rfl) (by kernel_rfl) (fun _ _ _ h => h) (y_run rfl fun w' hw' => r_move (.tmp 11) rfl E11) hS0 ?_
  refine wpAnyH_take (i := 1) (v := (.int .i64 (I.D.p i))) rfl (by kernel_rfl) (by kernel_rfl) (by kernel_rfl) (fun _ _ _ h => h) (y_run rfl fun w' hw' => r_move (.tmp 34) rfl (by (iterate 1 (refine Eq.trans (ev_ne (by decide)) ?_)); exact E34)) hS0 ?_
  refine wpAnyH_take (i := 2) (v := (.pointer (some ⟨psB, I.D.p i, none⟩))) rfl (by kernel_rfl) (by kernel_rfl) (by kernel_rfl) (fun _ _ _ h => h) (y_run rfl fun w' hw' => r_idx32 (n := I.D.np) (c := I.D.np) (.tmp 334) (.tmp 335) rfl hpn (by (iterate 1 (refine Eq.trans (ev_ne (by decide)) ?_)); exact ev_same (by (repeat rw [put_size]); rw [hsz]; decide)) (by exact ev_same (by (repeat rw [put_size]); rw [hsz]; decide))) hS0 ?_
  refine wpAnyH_take (i := 3) (v := (ptr (A.pa (I.D.p i)))) rfl (by kernel_rfl) (by kernel_rfl) (by kernel_rfl) (fun _ _ _ h => h) (y_run rfl fun w' hw' => r_load37 (.tmp 336) rfl (by exact ev_same (by (repeat rw [put_size]); rw [hsz]; decide)) hw'.1) hS0 ?_
  refine wpAnyH_take (i := 4) (v := (.pointer (some ⟨inB, 1, none⟩))) rfl (by kernel_rfl) (by kernel_rfl) (by kernel_rfl) (fun _ _ _ h => h) (y_run rfl fun w' hw' => r_f31 1 (by simp) (.tmp 33) rfl (by (iterate 4 (refine Eq.trans (ev_ne (by decide)) ?_)); exact E33)) hS0 ?_
  refine wpAnyH_take (i := 5) (v := (.int .i64 (I.R i).heap)) rfl (by kernel_rfl) (by kernel_rfl) (by kernel_rfl) (fun _ _ _ h => h) (y_run rfl fun w' hw' => r_loadB 3 (by simp) (.tmp 338) rfl (by exact ev_same (by (repeat rw [put_size]); rw [hsz]; decide)) hw'.2) hS0 ?_
  refine wpAnyH_take (i := 6) (v := (.agg (recC (A.pa (I.D.p i)) (I.R i).heap))) rfl (by kernel_rfl) (by kernel_rfl) (by kernel_rfl) (fun _ _ _ h => h) (y_run rfl fun w' hw' => r_b72 (.tmp 337) (.tmp 339) rfl (by (iterate 2 (refine Eq.trans (ev_ne (by decide)) ?_)); exact ev_same (by (repeat rw [put_size]); rw [hsz]; decide)) (by exact ev_same (by (repeat rw [put_size]); rw [hsz]; decide))) hS0 ?_
  have hT : Touch (fun _ => False) w (w.drew.alloc (.cells (recC (A.pa (I.D.p i)) (I.R i).heap) 72)) := (Touch.refl _ _).drew.alloc _
  have hS1 : (w.drew.alloc (.cells (recC (A.pa (I.D.p i)) (I.R i).heap) 72)).cell? ⟨psB, I.D.p i, none⟩ = some (ptr (A.pa (I.D.p i))) ∧ (w.drew.alloc (.cells (recC (A.pa (I.D.p i)) (I.R i).heap) 72)).cell? ⟨inB, 1, none⟩ = some (.int .i64 (I.R i).heap) :=
    ⟨(World.cell?_of_block (a := ⟨psB, I.D.p i, none⟩) (hT.block _ hR.pg.rps.lt id)).trans hps, (World.cell?_of_block (a := ⟨inB, 1, none⟩) (hT.block _ hTin.lt id)).trans hin⟩
  refine wpAnyH_ready (rs := [7]) (by kernel_rfl) (by simp) ?_
  refine AllReadyH.cons rfl (fun K' hK' => ?_) AllReadyH.nil
  refine wp_val rfl (r_box72 (.tmp 340) rfl (by exact ev_same (by (repeat rw [put_size]); rw [hsz]; decide))) ?_
  refine hK'.out _ _ hS1 (fun _ => ?_)
  clear hK' K'
  refine wpAnyH_take (i := 8) (v := ptr w.heap.size) rfl (by kernel_rfl) (by kernel_rfl) (by kernel_rfl) (fun _ _ _ h => h) (y_run rfl fun w' hw' => r_assign (.tmp 341) rfl (by exact ev_same (by (repeat rw [put_size]); rw [hsz]; decide))) hS1 ?_
  refine wpAnyH_done (by kernel_rfl) ?_ _
  refine hK _ _ hT ?_ ?_ (hL.to (by (repeat rw [put_size]); exact hsz) (by (repeat rw [put_defers]); exact hL.defers) (fun q hq => by
    (iterate 9 (refine Eq.trans (put_get (by omega)) ?_))
    rfl) (by (iterate 9 (refine Eq.trans (put_get (by decide)) ?_)); exact e33) (by (iterate 9 (refine Eq.trans (put_get (by decide)) ?_)); exact e34) (put_self (by (repeat rw [put_size]); rw [hsz]; decide)))
  · show _ < (w.heap.push _).size; rw [Array.size_push]; omega
  · have h1 := World.rowIs_alloc w.drew (recC (A.pa (I.D.p i)) (I.R i).heap) 72 (fun q => ((recC (A.pa (I.D.p i)) (I.R i).heap)[q]?).getD undef) (fun q hq => by rw [Array.getElem?_eq_getElem hq]; rfl)
    exact ⟨_, h1, rfl, rfl, rfl, rfl, by rw [if_pos rfl]; rfl⟩
end Go.Proofs.Ybulkeyzg
