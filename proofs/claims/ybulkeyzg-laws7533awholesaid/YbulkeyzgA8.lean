import Derived.Test.YbulkeyzgA7
import Derived.Test.YbulkeyzgAF
namespace Go.Proofs.Ybulkeyzg
open Go.RowKit

/-! ### the input as it lies in memory -/
structure TD where
  s : Int
  f : Int
  nb : Nat
  A : Option Addr
  c : Nat
  pg : Nat → Nat
  m : Nat → Nat
  k : Nat → Nat
  b : Nat → Int
structure Inp where
  lp : Nat
  lt : Nat
  lr : Nat
  pr : Nat → Nat
  pf : Nat → Nat
  T : Nat → TD
  R : Nat → RD
  hA : Nat → Option Addr
  hc : Nat → Nat
  wA : Nat → Option Addr
  wc : Nat → Nat
  p0 : Option Addr
  p1 : Option Addr
  p2 : Option Addr
  c0 : Nat
  c1 : Nat
  c2 : Nat

section
variable (I : Inp)
structure Inp.At (w : World) : Prop where
  pages : ∀ i, i < I.lp → ∃ b off, I.p0 = some ⟨b, off, none⟩ ∧ b < w.heap.size ∧ w.cell? ⟨b, off + i * 2, none⟩ = some (.int .u16 (I.pr i)) ∧ w.cell? ⟨b, off + i * 2 + 1, none⟩ = some (.int .u8 (I.pf i))
  trxs : ∀ i, i < I.lt → ∃ b off, I.p1 = some ⟨b, off, none⟩ ∧ b < w.heap.size ∧ w.cell? ⟨b, off + i * 3, none⟩ = some (.int .i64 (I.T i).s) ∧ w.cell? ⟨b, off + i * 3 + 1, none⟩ = some (.int .i64 (I.T i).f) ∧ w.cell? ⟨b, off + i * 3 + 2, none⟩ = some (.slice (I.T i).A (I.T i).nb (I.T i).c)
  bits : ∀ i, i < I.lt → ∀ j, j < (I.T i).nb → ∃ b off, (I.T i).A = some ⟨b, off, none⟩ ∧ b < w.heap.size ∧ w.cell? ⟨b, off + j * 4, none⟩ = some (.int .u8 ((I.T i).pg j)) ∧ w.cell? ⟨b, off + j * 4 + 1, none⟩ = some (.int .u8 ((I.T i).m j)) ∧ w.cell? ⟨b, off + j * 4 + 2, none⟩ = some (.int .u8 ((I.T i).k j)) ∧ w.cell? ⟨b, off + j * 4 + 3, none⟩ = some (.int .i64 ((I.T i).b j))
  recs : ∀ i, i < I.lr → ∃ b off, I.p2 = some ⟨b, off, none⟩ ∧ b < w.heap.size ∧ w.cell? ⟨b, off + i * 5, none⟩ = some (.int .u8 (I.R i).pg) ∧ w.cell? ⟨b, off + i * 5 + 1, none⟩ = some (.int .i64 (I.R i).heap) ∧ w.cell? ⟨b, off + i * 5 + 2, none⟩ = some (.bool (I.R i).sup) ∧ w.cell? ⟨b, off + i * 5 + 3, none⟩ = some (.slice (I.hA i) (I.R i).nh (I.hc i)) ∧ w.cell? ⟨b, off + i * 5 + 4, none⟩ = some (.slice (I.wA i) (I.R i).nw (I.wc i))
  held : ∀ i, i < I.lr → ∀ j, j < (I.R i).nh → ∃ b off, I.hA i = some ⟨b, off, none⟩ ∧ b < w.heap.size ∧ w.cell? ⟨b, off + j * 4, none⟩ = some (.int .u8 ((I.R i).h j).t) ∧ w.cell? ⟨b, off + j * 4 + 1, none⟩ = some (.int .u8 ((I.R i).h j).m) ∧ w.cell? ⟨b, off + j * 4 + 2, none⟩ = some (.int .u8 ((I.R i).h j).k) ∧ w.cell? ⟨b, off + j * 4 + 3, none⟩ = some (.bool ((I.R i).h j).imp)
  wait : ∀ i, i < I.lr → ∀ j, j < (I.R i).nw → ∃ b off, I.wA i = some ⟨b, off, none⟩ ∧ b < w.heap.size ∧ w.cell? ⟨b, off + j, none⟩ = some (.int .u8 ((I.R i).q j))
/-- the numbers are of their kinds, the lengths within the reach -/
structure Inp.Fine : Prop where
  lp : I.lp ≤ 140737488355328
  lt : I.lt ≤ 140737488355328
  lr : I.lr ≤ 140737488355328
  pr : ∀ i, i < I.lp → I.pr i < 65536
  pf : ∀ i, i < I.lp → I.pf i < 256
  nb : ∀ i, i < I.lt → (I.T i).nb ≤ 140737488355328
  pg : ∀ i, i < I.lt → ∀ j, j < (I.T i).nb → (I.T i).pg j < 256 ∧ (I.T i).m j < 256 ∧ (I.T i).k j < 256
  nh : ∀ i, i < I.lr → (I.R i).nh ≤ 140737488355328
  nw : ∀ i, i < I.lr → (I.R i).nw ≤ 140737488355328
  rpg : ∀ i, i < I.lr → (I.R i).pg < 256
  h : ∀ i, i < I.lr → ∀ j, j < (I.R i).nh → ((I.R i).h j).t < 256 ∧ ((I.R i).h j).m < 256 ∧ ((I.R i).h j).k < 256
  q : ∀ i, i < I.lr → ∀ j, j < (I.R i).nw → (I.R i).q j < 256

theorem Inp.At.below {I : Inp} {w w' : World} (h : I.At w) (hb : Below w.heap.size w w') : I.At w' := by
  have C : ∀ {b o : Nat}, b < w.heap.size → w'.cell? ⟨b, o, none⟩ = w.cell? ⟨b, o, none⟩ := fun {b o} hlt => World.cell?_of_block (a := ⟨b, o, none⟩) (hb.block b hlt)
  have L : ∀ {b : Nat}, b < w.heap.size → b < w'.heap.size := fun hlt => Nat.lt_of_lt_of_le hlt hb.size
  refine ⟨fun i hi => ?_, fun i hi => ?_, fun i hi j hj => ?_, fun i hi => ?_, fun i hi j hj => ?_, fun i hi j hj => ?_⟩
  · obtain ⟨b, o, h0, h1, h2, h3⟩ := h.pages i hi
    exact ⟨b, o, h0, L h1, (C h1).trans h2, (C h1).trans h3⟩
  · obtain ⟨b, o, h0, h1, h2, h3, h4⟩ := h.trxs i hi
    exact ⟨b, o, h0, L h1, (C h1).trans h2, (C h1).trans h3, (C h1).trans h4⟩
  · obtain ⟨b, o, h0, h1, h2, h3, h4, h5⟩ := h.bits i hi j hj
    exact ⟨b, o, h0, L h1, (C h1).trans h2, (C h1).trans h3, (C h1).trans h4, (C h1).trans h5⟩
  · obtain ⟨b, o, h0, h1, h2, h3, h4, h5, h6⟩ := h.recs i hi
    exact ⟨b, o, h0, L h1, (C h1).trans h2, (C h1).trans h3, (C h1).trans h4, (C h1).trans h5, (C h1).trans h6⟩
  · obtain ⟨b, o, h0, h1, h2, h3, h4, h5⟩ := h.held i hi j hj
    exact ⟨b, o, h0, L h1, (C h1).trans h2, (C h1).trans h3, (C h1).trans h4, (C h1).trans h5⟩
  · obtain ⟨b, o, h0, h1, h2⟩ := h.wait i hi j hj
    exact ⟨b, o, h0, L h1, (C h1).trans h2⟩

def sumN (f : Nat → Nat) : Nat → Nat
  | 0 => 0
  | n + 1 => sumN f n + f n
theorem sumN_le {f : Nat → Nat} {i n : Nat} (h : i < n) : f i ≤ sumN f n := by
  induction n with
  | zero => omega
  | succ n ih =>
    show f i ≤ sumN f n + f n
    by_cases e : i = n
    · subst e; omega
    · have := ih (by omega); omega
theorem sumN_mono {f : Nat → Nat} {i n : Nat} (h : i ≤ n) : sumN f i ≤ sumN f n := by
  induction h with
  | refl => exact Nat.le_refl _
  | step _ ih => exact Nat.le_trans ih (by show _ ≤ sumN f _ + f _; omega)

/-- the frame: the arguments' slots -/
structure Lv0 (a : Act) : Prop where
  size : a.tmps.size = 831
  defers : a.defers = []
  s0 : a.tmps[0]? = some (.slice I.p0 I.lp I.c0)
  s1 : a.tmps[1]? = some (.slice I.p1 I.lt I.c1)
  s2 : a.tmps[2]? = some (.slice I.p2 I.lr I.c2)

/-- the law's post -/
def Post (w0 : World) (e : Ending) (w' : World) : Prop := e = .returned (.bool true) ∧ Below w0.heap.size w0 w'
end

/-- loop 1 -/
def I1 (I : Inp) (w0 : World) (a : Act) (w : World) : Prop := Lv0 I a ∧ w = w0 ∧ ∃ i : Nat, i ≤ I.lt ∧ sumN (fun i => (I.T i).nb) i ≤ 4096 ∧ a.tmps[7]? = some (.int .i64 (sumN (fun i => (I.T i).nb) i : Nat)) ∧ a.tmps[8]? = some (.int .i64 i)
def M1 (I : Inp) (w0 : World) (a : Act) (w : World) : Prop := Lv0 I a ∧ w = w0 ∧ sumN (fun i => (I.T i).nb) I.lt ≤ 4096 ∧ a.tmps[7]? = some (.int .i64 (sumN (fun i => (I.T i).nb) I.lt : Nat))

set_option maxRecDepth 100000 in
set_option maxHeartbeats 1000000 in
theorem loop1 (I : Inp) (w0 : World) (hA : I.At w0) (hF : I.Fine) (K : Act → World → Prop) (hK : ∀ a w, M1 I w0 a w → K a w) (a : Act) (w : World) (h : I1 I w0 a w) :
    Code.wp Yba.prog (nav [1, 1, 1, 0, 1] (Yba.f3.body.getD .skip)) (Exit.then K (bodyPost Yba.prog Yba.f3 (Post w0))) a w := by
  refine wp_block_loop K (I1 I w0) (fun a _ => I.lt - (intOf (a.tmps.getD 8 undef)).toNat) h ?_
  clear h a w
  intro a w h
  obtain ⟨hL, rfl, i, hi, hs, e7, e8⟩ := h
  obtain ⟨x, rfl, hx⟩ := act_fr a hL.size hL.defers
  have e0 := hx _ _ hL.s0
  have e1 := hx _ _ hL.s1
  have e2 := hx _ _ hL.s2
  replace e7 := hx _ _ e7
  replace e8 := hx _ _ e8
  clear hx hL
  have HS : Hid (sumN (fun i => (I.T i).nb) i ≤ 4096) := hs
  by_cases hil : i < I.lt
  · obtain ⟨b, off, hp, hb, -, -, c2⟩ := hA.trxs i hil
    have hI : (i : Int) < I.lt := by omega
    have hlt := hF.lt
    have hnb := hF.nb i hil
    obtain ⟨S, hS⟩ : ∃ S, S = sumN (fun i => (I.T i).nb) i := ⟨_, rfl⟩
    have HSS : Hid (S = sumN (fun i => (I.T i).nb) i) := hS
    rw [← hS] at e7 hs
    rw [hp] at e1
    obtain ⟨n, hn⟩ : ∃ n, n = (I.T i).nb := ⟨_, rfl⟩
    have HN : Hid (n = (I.T i).nb) := hn
    have HP : Hid (I.p1 = some ⟨b, off, none⟩) := hp
    rw [← hn] at c2 hnb
    clear hS hn hp
    simp only [fr, Nat.reduceAdd, e0, e1, e2, e7, e8]
    clear e0 e1 e2 e7 e8
    by_cases hbig : (4096 : Int) < (S : Int) + n
    · go_wp2_with fail
      go_ret
      exact ⟨rfl, Below.refl _ _⟩
    · go_wp2_with fail
      refine ⟨⟨⟨rfl, rfl, rfl, by rw [HP.out]; rfl, rfl⟩, rfl, i + 1, by omega, ?_, ?_, rfl⟩, by simp [intOf]; omega⟩
      · show sumN _ i + (I.T i).nb ≤ 4096
        rw [← HSS.out, ← HN.out]; omega
      · show _ = some (Value.int .i64 ((sumN _ i + (I.T i).nb : Nat) : Int))
        rw [← HSS.out, ← HN.out]; rfl
  · have hI : ¬ (i : Int) < I.lt := by omega
    have : i = I.lt := by omega
    subst this
    simp only [fr, Nat.reduceAdd, e0, e1, e2, e7, e8]
    clear e0 e1 e2 e7 e8
    go_wp2_with fail
    exact ⟨⟨rfl, rfl, rfl, rfl, rfl⟩, rfl, HS.out, rfl⟩

/-- loop 2 -/
def tot (I : Inp) (i : Nat) : Nat := sumN (fun i => (I.T i).nb) I.lt + sumN (fun i => (I.R i).nh + (I.R i).nw) i
def I2 (I : Inp) (w0 : World) (a : Act) (w : World) : Prop := Lv0 I a ∧ Below w0.heap.size w0 w ∧ w.heap.size = w0.heap.size ∧ ∃ i : Nat, i ≤ I.lr ∧ tot I i ≤ 4096 ∧ a.tmps[7]? = some (.int .i64 (tot I i : Nat)) ∧ a.tmps[9]? = some (.int .i64 i)
def M2 (I : Inp) (w0 : World) (a : Act) (w : World) : Prop := Lv0 I a ∧ Below w0.heap.size w0 w ∧ w.heap.size = w0.heap.size ∧ tot I I.lr ≤ 4096

set_option maxRecDepth 100000 in
set_option maxHeartbeats 1000000 in
theorem loop2 (I : Inp) (w0 : World) (hA : I.At w0) (hF : I.Fine) (K : Act → World → Prop) (hK : ∀ a w, M2 I w0 a w → K a w) (a : Act) (w : World) (h : I2 I w0 a w) :
    Code.wp Yba.prog (nav [1, 1, 1, 1, 0, 1] (Yba.f3.body.getD .skip)) (Exit.then K (bodyPost Yba.prog Yba.f3 (Post w0))) a w := by
  refine wp_block_loop K (I2 I w0) (fun a _ => I.lr - (intOf (a.tmps.getD 9 undef)).toNat) h ?_
  clear h a w
  intro a w h
  obtain ⟨hL, hbel, hsz, i, hi, hs, e7, e9⟩ := h
  obtain ⟨x, rfl, hx⟩ := act_fr a hL.size hL.defers
  have e0 := hx _ _ hL.s0
  have e1 := hx _ _ hL.s1
  have e2 := hx _ _ hL.s2
  replace e7 := hx _ _ e7
  replace e9 := hx _ _ e9
  clear hx hL
  have HS : Hid (tot I i ≤ 4096) := hs
  have HB : Hid (Below w0.heap.size w0 w ∧ w.heap.size = w0.heap.size) := ⟨hbel, hsz⟩
  by_cases hil : i < I.lr
  · obtain ⟨b, off, hp, hb, -, -, -, c3, c4⟩ := (hA.below hbel).recs i hil
    have hI : (i : Int) < I.lr := by omega
    have hlt := hF.lr
    have hnh := hF.nh i hil
    have hnw := hF.nw i hil
    obtain ⟨S, hS⟩ : ∃ S, S = tot I i := ⟨_, rfl⟩
    have HSS : Hid (S = tot I i) := hS
    rw [← hS] at e7 hs
    rw [hp] at e2
    obtain ⟨n, hn⟩ : ∃ n, n = (I.R i).nh := ⟨_, rfl⟩
    obtain ⟨m, hm⟩ : ∃ m, m = (I.R i).nw := ⟨_, rfl⟩
    have HN : Hid (n = (I.R i).nh ∧ m = (I.R i).nw) := ⟨hn, hm⟩
    have HP : Hid (I.p2 = some ⟨b, off, none⟩) := hp
    rw [← hn] at c3 hnh
    rw [← hm] at c4 hnw
    clear hS hn hp hbel hsz hm
    simp only [fr, Nat.reduceAdd, e0, e1, e2, e7, e9]
    clear e0 e1 e2 e7 e9
    by_cases hbig : (4096 : Int) < (S : Int) + (n + m)
    · go_wp2_with fail
      go_quiet (fail)
      go_wp2_with fail
      go_ret
      exact ⟨rfl, ⟨HB.out.1.os, HB.out.1.tape, HB.out.1.output, HB.out.1.size, HB.out.1.block⟩⟩
    · go_wp2_with fail
      go_quiet (fail)
      go_wp2_with fail
      refine ⟨⟨⟨rfl, rfl, rfl, rfl, by rw [HP.out]; rfl⟩, ⟨HB.out.1.os, HB.out.1.tape, HB.out.1.output, HB.out.1.size, HB.out.1.block⟩, HB.out.2, i + 1, by omega, ?_, ?_, rfl⟩, by simp [intOf]; omega⟩
      · have h1 := HSS.out
        have h2 := HN.out
        show sumN _ _ + (sumN _ i + ((I.R i).nh + (I.R i).nw)) ≤ 4096
        unfold tot at h1
        omega
      · have h1 := HSS.out
        have h2 := HN.out
        show _ = some (Value.int .i64 ((sumN (fun i => (I.T i).nb) I.lt + (sumN (fun i => (I.R i).nh + (I.R i).nw) i + ((I.R i).nh + (I.R i).nw)) : Nat) : Int))
        unfold tot at h1
        rw [← h2.1, ← h2.2, ← Nat.add_assoc, ← h1]; rfl
  · have hI : ¬ (i : Int) < I.lr := by omega
    have : i = I.lr := by omega
    subst this
    clear hbel hsz
    simp only [fr, Nat.reduceAdd, e0, e1, e2, e7, e9]
    clear e0 e1 e2 e7 e9
    go_wp2_with fail
    exact ⟨⟨rfl, rfl, rfl, rfl, rfl⟩, HB.out.1, HB.out.2, HS.out⟩
end Go.Proofs.Ybulkeyzg
