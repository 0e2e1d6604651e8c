import Derived.Test.YbulkeyzgC4
namespace Go.Proofs.Ybulkeyzg
open Go.RowKit

theorem put_none' {a : Act} {d : Option Nat} {v : Value} {q : Nat} (h : d = none) : (a.put d v).tmps[q]? = a.tmps[q]? := by subst h; rfl

set_option maxRecDepth 100000 in
set_option maxHeartbeats 4000000 in
/-- region 75: 'rec.held = append(rec.held, &held{..})' -/
theorem r75 (w : World) (a : Act) (ra hB tsB nt ta t m k : Nat) (imp : Bool) (hv : Value) (N n : Nat) (xs : List Value) (hsz : a.tmps.size = 831) (hnt0 : 0 < nt) (ht : t < 256)
    (e17 : a.tmps[17]? = some (.int .i64 nt)) (e18 : a.tmps[18]? = some (.slice (some ⟨tsB, 0, none⟩) nt nt)) (e35 : a.tmps[35]? = some (ptr ra)) (e37 : a.tmps[37]? = some (ptr hB))
    (c9 : w.cell? ⟨ra, 9, none⟩ = some hv) (z9 : w.frozen? ⟨ra, 9, none⟩ = false) (h0 : w.cell? ⟨hB, 0, none⟩ = some (.int .u8 t)) (h1 : w.cell? ⟨hB, 1, none⟩ = some (.int .u8 m)) (h2 : w.cell? ⟨hB, 2, none⟩ = some (.int .u8 k)) (h3 : w.cell? ⟨hB, 3, none⟩ = some (.bool imp))
    (hts : w.cell? ⟨tsB, t % nt, none⟩ = some (ptr ta)) (hral : ra < w.heap.size) (hhl : hB < w.heap.size) (htl : tsB < w.heap.size) (hown : w.ownsRow N 75 1 hv n xs) (hn : n ≤ 100000) (hN : N ≤ w.heap.size)
    (hno : some ra ≠ hv.ownBlock ∧ some hB ≠ hv.ownBlock ∧ some tsB ≠ hv.ownBlock) (Q : Exit → Act → World → Prop)
    (hQ : ∀ (a' : Act) (w2 : World) (g cap : Nat), a'.tmps.size = 831 → a'.defers = a.defers → (∀ q, q < 361 → a'.tmps[q]? = a.tmps[q]?) →
      ((w.drew.alloc (.cells #[ptr ta, .int .u8 (m % 3 : Nat), .int .u8 (k % 4 : Nat), ptr ra, .int .i64 0, .bool imp, .bool false] 77)).alloc (.cells #[ptr w.heap.size] 75)).grownBy w2 hv.ownBlock →
      (hv.ownBlock = some g ∨ g = w.heap.size + 2) → g < w2.heap.size → w2.ownsRow N 75 1 (.slice (some ⟨g, 0, none⟩) (n + 1) cap) (n + 1) (xs ++ [ptr w.heap.size]) → Q .normal a' (w2.setCell ⟨ra, 9, none⟩ (.slice (some ⟨g, 0, none⟩) (n + 1) cap))) :
    Code.wp Yba.prog (nav [1, 1, 1, 1, 1, 1, 1, 1, 1, 1, 1, 1, 1, 1, 1, 1, 1, 1, 1, 1, 1, 0, 1, 0, 0, 1, 0, 0, 1, 1, 1, 1, 0, 1, 0, 0, 1, 0, 0, 1] (Yba.f3.body.getD .skip)) Q a w := by
  have E17 := ev_of e17
  have E18 := ev_of e18
  have E35 := ev_of e35
  have E37 := ev_of e37
  unfold ptr at E35 E37
  conv => arg 2; whnf
  refine wp_region_noPanic ?_
  refine wp_region_peel' (fun w' => w'.cell? ⟨ra, 9, none⟩ = some hv ∧ w'.cell? ⟨hB, 0, none⟩ = some (.int .u8 t) ∧ w'.cell? ⟨hB, 1, none⟩ = some (.int .u8 m) ∧ w'.cell? ⟨hB, 2, none⟩ = some (.int .u8 k) ∧ w'.cell? ⟨hB, 3, none⟩ = some (.bool imp) ∧ w'.cell? ⟨tsB, t % nt, none⟩ = some (ptr ta)) (by simp) (by kernel_rfl) (by kernel_rfl) (by kernel_rfl) ?_
  have hS0 : w.drew.cell? ⟨ra, 9, none⟩ = some hv ∧ w.drew.cell? ⟨hB, 0, none⟩ = some (.int .u8 t) ∧ w.drew.cell? ⟨hB, 1, none⟩ = some (.int .u8 m) ∧ w.drew.cell? ⟨hB, 2, none⟩ = some (.int .u8 k) ∧ w.drew.cell? ⟨hB, 3, none⟩ = some (.bool imp) ∧ w.drew.cell? ⟨tsB, t % nt, none⟩ = some (ptr ta) := ⟨c9, h0, h1, h2, h3, hts⟩
  refine wpAnyH_take (i := 0) (v := (.pointer (some ⟨ra, 0, none⟩))) rfl (by kernel_rfl) (by kernel_rfl) (by kernel_rfl) (fun _ _ _ h => h) (y_run rfl fun w' hw' => r_move (.tmp 35) rfl (by exact E35)) hS0 ?_
  refine wpAnyH_take (i := 1) (v := (.pointer (some ⟨ra, 0, none⟩))) rfl (by kernel_rfl) (by kernel_rfl) (by kernel_rfl) (fun _ _ _ h => h) (y_run rfl fun w' hw' => r_move (.tmp 35) rfl (by (iterate 1 (refine Eq.trans (ev_ne (by decide)) ?_)); exact E35)) hS0 ?_
  refine wpAnyH_take (i := 2) (v := (.pointer (some ⟨ra, 0, none⟩))) rfl (by kernel_rfl) (by kernel_rfl) (by kernel_rfl) (fun _ _ _ h => h) (y_run rfl fun w' hw' => r_nil (.tmp 362) rfl (by exact ev_same (by (repeat rw [put_size]); rw [hsz]; decide))) hS0 ?_
  refine wpAnyH_take (i := 3) (v := (.pointer (some ⟨ra, 9, none⟩))) rfl (by kernel_rfl) (by kernel_rfl) (by kernel_rfl) (fun _ _ _ h => h) (y_run rfl fun w' hw' => r_f72 (.tmp 363) rfl (by exact ev_same (by (repeat rw [put_size]); rw [hsz]; decide))) hS0 ?_
  refine wpAnyH_take (i := 4) (v := hv) rfl (by kernel_rfl) (by kernel_rfl) (by kernel_rfl) (fun _ _ _ h => h) (y_run rfl fun w' hw' => r_load 49 (by simp) (.tmp 364) rfl (by exact ev_same (by (repeat rw [put_size]); rw [hsz]; decide)) hw'.1) hS0 ?_
  refine wpAnyH_take (i := 5) (v := (.slice (some ⟨tsB, 0, none⟩) nt nt)) rfl (by kernel_rfl) (by kernel_rfl) (by kernel_rfl) (fun _ _ _ h => h) (y_run rfl fun w' hw' => r_move (.tmp 18) rfl (by (iterate 5 (refine Eq.trans (ev_ne (by decide)) ?_)); exact E18)) hS0 ?_
  refine wpAnyH_take (i := 6) (v := (.pointer (some ⟨hB, 0, none⟩))) rfl (by kernel_rfl) (by kernel_rfl) (by kernel_rfl) (fun _ _ _ h => h) (y_run rfl fun w' hw' => r_f74 0 (by omega) (.tmp 37) rfl (by (iterate 6 (refine Eq.trans (ev_ne (by decide)) ?_)); exact E37)) hS0 ?_
  refine wpAnyH_take (i := 7) (v := (.int .u8 t)) rfl (by kernel_rfl) (by kernel_rfl) (by kernel_rfl) (fun _ _ _ h => h) (y_run rfl fun w' hw' => r_load 5 (by simp) (.tmp 367) rfl (by exact ev_same (by (repeat rw [put_size]); rw [hsz]; decide)) hw'.2.1) hS0 ?_
  refine wpAnyH_take (i := 8) (v := (.int .i64 t)) rfl (by kernel_rfl) (by kernel_rfl) (by kernel_rfl) (fun _ _ _ h => h) (y_run rfl fun w' hw' => r_conv (.tmp 368) rfl ht (by exact ev_same (by (repeat rw [put_size]); rw [hsz]; decide))) hS0 ?_
  refine wpAnyH_take (i := 9) (v := (.int .i64 nt)) rfl (by kernel_rfl) (by kernel_rfl) (by kernel_rfl) (fun _ _ _ h => h) (y_run rfl fun w' hw' => r_move (.tmp 17) rfl (by (iterate 9 (refine Eq.trans (ev_ne (by decide)) ?_)); exact E17)) hS0 ?_
  refine wpAnyH_take (i := 10) (v := (.int .i64 (t % nt : Nat))) rfl (by kernel_rfl) (by kernel_rfl) (by kernel_rfl) (fun _ _ _ h => h) (y_run rfl fun w' hw' => r_rem3 (.tmp 369) (.tmp 370) rfl hnt0 (by (iterate 1 (refine Eq.trans (ev_ne (by decide)) ?_)); exact ev_same (by (repeat rw [put_size]); rw [hsz]; decide)) (by exact ev_same (by (repeat rw [put_size]); rw [hsz]; decide))) hS0 ?_
  refine wpAnyH_take (i := 11) (v := (.pointer (some ⟨tsB, t % nt, none⟩))) rfl (by kernel_rfl) (by kernel_rfl) (by kernel_rfl) (fun _ _ _ h => h) (y_run rfl fun w' hw' => r_idx42 (.tmp 366) (.tmp 371) rfl (Nat.mod_lt _ hnt0) (by (iterate 5 (refine Eq.trans (ev_ne (by decide)) ?_)); exact ev_same (by (repeat rw [put_size]); rw [hsz]; decide)) (by exact ev_same (by (repeat rw [put_size]); rw [hsz]; decide))) hS0 ?_
  refine wpAnyH_take (i := 12) (v := (ptr ta)) rfl (by kernel_rfl) (by kernel_rfl) (by kernel_rfl) (fun _ _ _ h => h) (y_run rfl fun w' hw' => r_load 45 (by simp) (.tmp 372) rfl (by exact ev_same (by (repeat rw [put_size]); rw [hsz]; decide)) hw'.2.2.2.2.2) hS0 ?_
  refine wpAnyH_take (i := 13) (v := (.pointer (some ⟨hB, 1, none⟩))) rfl (by kernel_rfl) (by kernel_rfl) (by kernel_rfl) (fun _ _ _ h => h) (y_run rfl fun w' hw' => r_f74 1 (by omega) (.tmp 37) rfl (by (iterate 13 (refine Eq.trans (ev_ne (by decide)) ?_)); exact E37)) hS0 ?_
  refine wpAnyH_take (i := 14) (v := (.int .u8 m)) rfl (by kernel_rfl) (by kernel_rfl) (by kernel_rfl) (fun _ _ _ h => h) (y_run rfl fun w' hw' => r_load 5 (by simp) (.tmp 374) rfl (by exact ev_same (by (repeat rw [put_size]); rw [hsz]; decide)) hw'.2.2.1) hS0 ?_
  refine wpAnyH_take (i := 15) (v := (.int .u8 (m % 3 : Nat))) rfl (by kernel_rfl) (by kernel_rfl) (by kernel_rfl) (fun _ _ _ h => h) (y_run rfl fun w' hw' => r_rem5 (.tmp 375) 3 (by simp) rfl (by exact ev_same (by (repeat rw [put_size]); rw [hsz]; decide)) rfl) hS0 ?_
  refine wpAnyH_take (i := 16) (v := (.pointer (some ⟨hB, 2, none⟩))) rfl (by kernel_rfl) (by kernel_rfl) (by kernel_rfl) (fun _ _ _ h => h) (y_run rfl fun w' hw' => r_f74 2 (by omega) (.tmp 37) rfl (by (iterate 16 (refine Eq.trans (ev_ne (by decide)) ?_)); exact E37)) hS0 ?_
  refine wpAnyH_take (i := 17) (v := (.int .u8 k)) rfl (by kernel_rfl) (by kernel_rfl) (by kernel_rfl) (fun _ _ _ h => h) (y_run rfl fun w' hw' => r_load 5 (by simp) (.tmp 377) rfl (by exact ev_same (by (repeat rw [put_size]); rw [hsz]; decide)) hw'.2.2.2.1) hS0 ?_
  refine wpAnyH_take (i := 18) (v := (.int .u8 (k % 4 : Nat))) rfl (by kernel_rfl) (by kernel_rfl) (by kernel_rfl) (fun _ _ _ h => h) (y_run rfl fun w' hw' => r_rem5 (.tmp 378) 4 (by simp) rfl (by exact ev_same (by (repeat rw [put_size]); rw [hsz]; decide)) rfl) hS0 ?_
  refine wpAnyH_take (i := 19) (v := (.agg #[.int .u8 (m % 3 : Nat), .int .u8 (k % 4 : Nat)])) rfl (by kernel_rfl) (by kernel_rfl) (by kernel_rfl) (fun _ _ _ h => h) (y_run rfl fun w' hw' => r_b61 (.tmp 376) (.tmp 379) rfl (by (iterate 3 (refine Eq.trans (ev_ne (by decide)) ?_)); exact ev_same (by (repeat rw [put_size]); rw [hsz]; decide)) (by exact ev_same (by (repeat rw [put_size]); rw [hsz]; decide))) hS0 ?_
  refine wpAnyH_take (i := 20) (v := (ptr ra)) rfl (by kernel_rfl) (by kernel_rfl) (by kernel_rfl) (fun _ _ _ h => h) (y_run rfl fun w' hw' => r_move (.tmp 35) rfl (by (iterate 20 (refine Eq.trans (ev_ne (by decide)) ?_)); exact E35)) hS0 ?_
  refine wpAnyH_take (i := 21) (v := (.pointer (some ⟨hB, 3, none⟩))) rfl (by kernel_rfl) (by kernel_rfl) (by kernel_rfl) (fun _ _ _ h => h) (y_run rfl fun w' hw' => r_f74 3 (by omega) (.tmp 37) rfl (by (iterate 21 (refine Eq.trans (ev_ne (by decide)) ?_)); exact E37)) hS0 ?_
  refine wpAnyH_take (i := 22) (v := (.bool imp)) rfl (by kernel_rfl) (by kernel_rfl) (by kernel_rfl) (fun _ _ _ h => h) (y_run rfl fun w' hw' => r_load 4 (by simp) (.tmp 382) rfl (by exact ev_same (by (repeat rw [put_size]); rw [hsz]; decide)) hw'.2.2.2.2.1) hS0 ?_
  refine wpAnyH_take (i := 23) (v := (.agg #[ptr ta, .int .u8 (m % 3 : Nat), .int .u8 (k % 4 : Nat), ptr ra, .int .i64 0, .bool imp, .bool false])) rfl (by kernel_rfl) (by kernel_rfl) (by kernel_rfl) (fun _ _ _ h => h) (y_run rfl fun w' hw' => r_b77 (.tmp 373) (.tmp 380) (.tmp 381) (.tmp 383) rfl (by (iterate 10 (refine Eq.trans (ev_ne (by decide)) ?_)); exact ev_same (by (repeat rw [put_size]); rw [hsz]; decide)) (by (iterate 3 (refine Eq.trans (ev_ne (by decide)) ?_)); exact ev_same (by (repeat rw [put_size]); rw [hsz]; decide)) (by (iterate 2 (refine Eq.trans (ev_ne (by decide)) ?_)); exact ev_same (by (repeat rw [put_size]); rw [hsz]; decide)) (by exact ev_same (by (repeat rw [put_size]); rw [hsz]; decide))) hS0 ?_
  obtain ⟨W1, hW1⟩ : ∃ W1, W1 = (w.drew.alloc (.cells #[ptr ta, .int .u8 (m % 3 : Nat), .int .u8 (k % 4 : Nat), ptr ra, .int .i64 0, .bool imp, .bool false] 77)) := ⟨_, rfl⟩
  obtain ⟨W2, hW2⟩ : ∃ W2, W2 = W1.alloc (.cells #[ptr w.heap.size] 75) := ⟨_, rfl⟩
  have b1 : ∀ q, q < w.heap.size → W1.heap[q]? = w.heap[q]? := fun q hq => by rw [hW1]; exact Go.Deep.blk_alloc_lt w.drew _ _ hq
  have s1 : W1.heap.size = w.heap.size + 1 := by rw [hW1]; show (w.heap.push _).size = _; simp
  have b2 : ∀ q, q < w.heap.size → W2.heap[q]? = w.heap[q]? := fun q hq => by rw [hW2, Go.Deep.blk_alloc_lt _ _ _ (by omega)]; exact b1 q hq
  have s2 : W2.heap.size = w.heap.size + 2 := by rw [hW2]; show (W1.heap.push _).size = _; rw [Array.size_push, s1]
  have C : ∀ (V : World), (∀ q, q = ra ∨ q = hB ∨ q = tsB → V.heap[q]? = w.heap[q]?) → V.cell? ⟨ra, 9, none⟩ = some hv ∧ V.cell? ⟨hB, 0, none⟩ = some (.int .u8 t) ∧ V.cell? ⟨hB, 1, none⟩ = some (.int .u8 m) ∧ V.cell? ⟨hB, 2, none⟩ = some (.int .u8 k) ∧ V.cell? ⟨hB, 3, none⟩ = some (.bool imp) ∧ V.cell? ⟨tsB, t % nt, none⟩ = some (ptr ta) := fun V hV =>
    ⟨(World.cell?_of_block (a := ⟨ra, 9, none⟩) (hV ra (.inl rfl))).trans c9, (World.cell?_of_block (a := ⟨hB, 0, none⟩) (hV hB (.inr (.inl rfl)))).trans h0, (World.cell?_of_block (a := ⟨hB, 1, none⟩) (hV hB (.inr (.inl rfl)))).trans h1, (World.cell?_of_block (a := ⟨hB, 2, none⟩) (hV hB (.inr (.inl rfl)))).trans h2, (World.cell?_of_block (a := ⟨hB, 3, none⟩) (hV hB (.inr (.inl rfl)))).trans h3, (World.cell?_of_block (a := ⟨tsB, t % nt, none⟩) (hV tsB (.inr (.inr rfl)))).trans hts⟩
  have hS1 := C W1 (fun q hq => b1 q (by rcases hq with rfl | rfl | rfl <;> assumption))
  have hS2 := C W2 (fun q hq => b2 q (by rcases hq with rfl | rfl | rfl <;> assumption))
  refine wpAnyH_ready (rs := [24]) (by kernel_rfl) (by simp) ?_
  refine AllReadyH.cons rfl (fun K hK => ?_) AllReadyH.nil
  refine wp_val rfl (r_box (.tmp 384) rfl (by exact ev_same (by (repeat rw [put_size]); rw [hsz]; decide))) ?_
  rw [← hW1]
  refine hK.out _ _ hS1 (fun _ => ?_)
  clear hK K
  refine wpAnyH_ready (rs := [25]) (by kernel_rfl) (by simp) ?_
  refine AllReadyH.cons rfl (fun K hK => ?_) AllReadyH.nil
  refine wp_val rfl (r_bsl (b := w.heap.size) (.tmp 385) rfl (by exact ev_same (by (repeat rw [put_size]); rw [hsz]; decide))) ?_
  rw [← hW2]
  refine hK.out _ _ hS2 (fun _ => ?_)
  clear hK K
  refine wpAnyH_ready (rs := [26]) (by kernel_rfl) (by simp) ?_
  refine AllReadyH.cons rfl (fun K hK => ?_) AllReadyH.nil
  refine step_appH 365 386 rfl rfl W2 N hv n xs w.heap.size W1.heap.size ?_ hn (by omega) (by rw [hW2]; exact Go.Deep.blk_alloc_new _ _) (by (iterate 21 (refine Eq.trans (ev_ne (by decide)) ?_)); exact ev_same (by (repeat rw [put_size]); rw [hsz]; decide)) (by exact ev_same (by (repeat rw [put_size]); rw [hsz]; decide)) ?_
  · rw [hW2, hW1]; exact (hown.drew.alloc _).alloc _
  intro g cap w2 hown2 hgr hat hgl
  have b3 : ∀ q, q = ra ∨ q = hB ∨ q = tsB → w2.heap[q]? = w.heap[q]? := fun q hq => by
    rcases hq with rfl | rfl | rfl
    · exact (hgr.block _ (by omega) hno.1).trans (b2 _ hral)
    · exact (hgr.block _ (by omega) hno.2.1).trans (b2 _ hhl)
    · exact (hgr.block _ (by omega) hno.2.2).trans (b2 _ htl)
  have hS3 := C w2 b3
  refine hK.out _ _ hS3 (fun _ => ?_)
  clear hK K
  refine wpAnyH_take (i := 27) (v := (.pointer (some ⟨ra, 0, none⟩))) rfl (by kernel_rfl) (by kernel_rfl) (by kernel_rfl) (fun _ _ _ h => h) (y_run rfl fun w' hw' => r_nil (.tmp 361) rfl (by (iterate 26 (refine Eq.trans (ev_ne (by decide)) ?_)); exact ev_same (by (repeat rw [put_size]); rw [hsz]; decide))) hS3 ?_
  refine wpAnyH_take (i := 28) (v := (.pointer (some ⟨ra, 9, none⟩))) rfl (by kernel_rfl) (by kernel_rfl) (by kernel_rfl) (fun _ _ _ h => h) (y_run rfl fun w' hw' => r_f72 (.tmp 388) rfl (by exact ev_same (by (repeat rw [put_size]); rw [hsz]; decide))) hS3 ?_
  refine wpAnyH_done (by kernel_rfl) ?_ _
  show Oper.wp _ _ _ _ _ _
  unfold Oper.wp
  rw [r_store (.tmp 389) (.tmp 387) rfl (by exact ev_same (by (repeat rw [put_size]); rw [hsz]; decide)) (by (iterate 2 (refine Eq.trans (ev_ne (by decide)) ?_)); exact ev_same (by (repeat rw [put_size]); rw [hsz]; decide)) hS3.1 ((World.frozen?_of_block (a := ⟨ra, 9, none⟩) (b3 ra (.inl rfl))).trans z9)]
  refine hQ _ w2 g cap ?_ ?_ (fun q hq => ?_) ?_ ?_ hgl hown2
  · simp only [List.getLast, put_size]; exact hsz
  · simp only [put_defers]
  · refine Eq.trans (put_none' rfl) ?_
    iterate 29 (refine Eq.trans (put_get (by omega)) ?_)
    rfl
  · rw [hW2, hW1] at hgr
    exact hgr
  · rw [s2] at hat; exact hat
end Go.Proofs.Ybulkeyzg
