import Derived.Test.YbulkeyzgA8
namespace Go.Proofs.Ybulkeyzg
open Go.RowKit

theorem run_makeK {P : Program} (t e : TypeId) (zs : Array Value) (K bytes : Nat) (ht : P.underlying t = some (.slice e)) (hinfo : (P.info? e).map (fun i => (i.zero, i.size, i.bytes)) = some (some (.agg zs), K, bytes))
    (n : Nat) (hbytes : bytes * n ≤ 281474976710656) (h63 : n ≤ 9223372036854775807) (w : World) :
    (Instr.makeSlice t (.int .i64 (n : Int)) (.int .i64 (n : Int))).run P w = .ok (.slice (some ⟨w.heap.size, 0, none⟩) n n) (w.alloc (.cells (madeCells zs (n * K)) e)) := by
  obtain ⟨i, hi, hzz⟩ := Option.map_eq_some_iff.1 hinfo
  simp only [Prod.mk.injEq] at hzz
  obtain ⟨hz, hs, hb⟩ := hzz
  have hb' : (i.bytes : Int) * (n : Int) ≤ 281474976710656 := by
    have h : ((i.bytes * n : Nat) : Int) ≤ 281474976710656 := by rw [hb]; omega
    rwa [Int.natCast_mul] at h
  have hr := run_make (P := P) w t e i _ ht hi hz .i64 .i64 n n (by omega) (Int.le_refl _) hb' (by omega)
  simp only [Int.toNat_natCast, hs, Value.cells] at hr
  exact hr


def upto (i : Nat) (G : Nat → Value) (z : Value) (j : Nat) : Value := if j < i then G j else z
theorem upto_lt {i j : Nat} (G : Nat → Value) (z : Value) (h : j < i) : upto i G z j = G j := if_pos h
theorem upto_ge {i j : Nat} (G : Nat → Value) (z : Value) (h : i ≤ j) : upto i G z j = z := if_neg (by omega)
theorem upto_zero (G : Nat → Value) (z : Value) (j : Nat) : upto 0 G z j = z := if_neg (by omega)

section
variable (I : Inp)
def Inp.D : Dat where
  np := if I.lp = 0 then 1 else I.lp
  nt := if I.lt = 0 then 1 else I.lt
  lr := I.lr
  pr := fun p => if p < I.lp then I.pr p % 512 else 0
  pf := fun p => if p < I.lp then I.pf p % 64 else 0
  R := I.R
theorem Inp.D_fine : I.D.Fine :=
  ⟨by show 0 < (if I.lp = 0 then 1 else I.lp); split <;> omega, by show 0 < (if I.lt = 0 then 1 else I.lt); split <;> omega,
    (fun p => by show (if p < I.lp then I.pr p % 512 else 0) < 512; split <;> omega), (fun p => by show (if p < I.lp then I.pf p % 64 else 0) < 64; split <;> omega)⟩
def Inp.mb (p : Nat) : Value := .int .i64 (bitsOf (I.D.pr p) (I.D.pf p))
/-- with the pages' slots -/
structure Lv1 (psB mbB : Nat) (a : Act) : Prop extends Lv0 I a where
  s10 : a.tmps[10]? = some (.int .i64 I.D.np)
  s11 : a.tmps[11]? = some (.slice (some ⟨psB, 0, none⟩) I.D.np I.D.np)
  s12 : a.tmps[12]? = some (.slice (some ⟨mbB, 0, none⟩) I.D.np I.D.np)
end

/-- the labels' blocks are there, and new -/
structure Labs (w0 w : World) (lab : Lab) : Prop where
  bel : Below w0.heap.size w0 w
  lt : ∀ b x, lab b = some x → b < w.heap.size
  ge : ∀ b x, lab b = some x → w0.heap.size ≤ b

/-- n pages are made -/
structure PG (I : Inp) (lab : Lab) (w : World) (A : Adr) (psB mbB n : Nat) : Prop where
  tps : lab psB = some (1, 7, 0)
  rps : w.rowIs psB 37 I.D.np (upto n (fun i => ptr (A.pa i)) (.pointer none))
  tmb : lab mbB = some (1, 8, 0)
  rmb : w.rowIs mbB 3 I.D.np (upto n I.mb (.int .i64 0))
  pages : PagesAt lab w I.D A n

/-- the labels keep theirs, with their blocks -/
def Grow (lab lab' : Lab) (K : Nat → Prop) (w w' : World) : Prop := ∀ b x, lab b = some x → K x.1 → lab' b = some x ∧ w'.heap[b]? = w.heap[b]?

def put1 (lab : Lab) (b : Nat) (x : Tag) : Lab := fun c => if c = b then some x else lab c
theorem put1_same (lab : Lab) (b : Nat) (x : Tag) : put1 lab b x b = some x := if_pos rfl
theorem put1_other {lab : Lab} {b c : Nat} (x : Tag) (h : c ≠ b) : put1 lab b x c = lab c := if_neg h

def I3 (I : Inp) (w0 : World) (psB mbB : Nat) (a : Act) (w : World) : Prop := Lv1 I psB mbB a ∧ ∃ (i : Nat) (lab : Lab) (A : Adr), i ≤ I.D.np ∧ a.tmps[13]? = some (.int .i64 i) ∧ Labs w0 w lab ∧ PG I lab w A psB mbB i
def M3 (I : Inp) (w0 : World) (psB mbB : Nat) (a : Act) (w : World) : Prop := Lv1 I psB mbB a ∧ ∃ (lab : Lab) (A : Adr), Labs w0 w lab ∧ PG I lab w A psB mbB I.D.np

theorem info40 : (Yba.prog.info? 177).map (fun i => (i.zero, i.size, i.bytes)) = some (some (.agg #[.int .i64 0, .int .i64 0]), 2, 16) := by kernel_rfl

theorem Labs.put1 {w0 w w' : World} {lab : Lab} (h : Labs w0 w lab) (hb : Below w0.heap.size w0 w') (hs : w.heap.size ≤ w'.heap.size) {b : Nat} (x : Tag) (h1 : w.heap.size ≤ b) (h2 : b < w'.heap.size) : Labs w0 w' (put1 lab b x) :=
  ⟨hb, fun c y hc => by
    by_cases e : c = b
    · subst e; exact h2
    · rw [put1_other x e] at hc; exact Nat.lt_of_lt_of_le (h.lt c y hc) hs, fun c y hc => by
    by_cases e : c = b
    · subst e; exact Nat.le_trans h.bel.size h1
    · rw [put1_other x e] at hc; exact h.ge c y hc⟩
theorem Labs.move {w0 w w' : World} {lab : Lab} (h : Labs w0 w lab) {S : Nat → Prop} (ht : Touch S w w') (hS : ∀ b, S b → w0.heap.size ≤ b) : Labs w0 w' lab :=
  ⟨ht.below h.bel h.bel.size fun b _ hb => hS b hb, fun b x hb => Nat.lt_of_lt_of_le (h.lt b x hb) ht.size, h.ge⟩
theorem Labs.fresh {w0 w : World} {lab : Lab} (h : Labs w0 w lab) {b : Nat} (hb : w.heap.size ≤ b) : lab b = none := by
  cases e : lab b with
  | none => rfl
  | some x => have := h.lt b x e; omega

/-- between the two stores of a round -/
structure PGm (I : Inp) (w0 : World) (lab : Lab) (w : World) (A : Adr) (psB mbB n : Nat) : Prop where
  labs : Labs w0 w lab
  tps : lab psB = some (1, 7, 0)
  tmb : lab mbB = some (1, 8, 0)
  rps : w.rowIs psB 37 I.D.np (upto (n + 1) (fun i => ptr (A.pa i)) (.pointer none))
  rmb : w.rowIs mbB 3 I.D.np (upto n I.mb (.int .i64 0))
  pages : PagesAt lab w I.D A (n + 1)
theorem PGm.next {I : Inp} {w0 w : World} {lab : Lab} {A : Adr} {psB mbB i : Nat} (h : PGm I w0 lab w A psB mbB i) : Labs w0 (w.setCell ⟨mbB, i, none⟩ (I.mb i)) lab ∧ PG I lab (w.setCell ⟨mbB, i, none⟩ (I.mb i)) A psB mbB (i + 1) := by
  have hT : Touch (fun b => b = mbB) w (w.setCell ⟨mbB, i, none⟩ (I.mb i)) := Touch.setCell (S := fun b => b = mbB) (Touch.refl _ _) (.inl rfl) _
  have hmne : psB ≠ mbB := fun e => by have := h.tmb; rw [← e, h.tps] at this; cases this
  refine ⟨h.labs.move hT (fun b hb => by rw [hb]; exact h.labs.ge _ _ h.tmb), h.tps, h.rps.setOther hmne _, h.tmb, (h.rmb.set i _).congr fun j hj => ?_, fun p hp => ⟨(h.pages p hp).1, (h.pages p hp).2.of_block (hT.block _ (h.labs.lt _ _ (h.pages p hp).1) fun e => ?_)⟩⟩
  · by_cases e : j = i
    · subst e
      rw [if_pos rfl, upto_lt _ _ (by omega)]
    · rw [if_neg e]
      by_cases e2 : j < i
      · rw [upto_lt _ _ e2, upto_lt _ _ (by omega)]
      · rw [upto_ge _ _ (by omega), upto_ge _ _ (by omega)]
  · have := (h.pages p hp).1
    rw [e, h.tmb] at this
    cases this

/-- a page is made -/
theorem PG.page {I : Inp} {w0 w : World} {lab : Lab} {A : Adr} {psB mbB i r f : Nat} (hL : Labs w0 w lab) (h : PG I lab w A psB mbB i) (hr : r = I.D.pr i) (hf : f = I.D.pf i) (F : Obj) (cs : Array Value) (hcs : cs.size = 8) (h2 : cs[2]? = some (.int .i64 r)) (h5 : cs[5]? = some (.slice (some ⟨w.heap.size, 0, none⟩) f f)) :
    ∃ (lab' : Lab) (A' : Adr), PGm I w0 lab' (((w.setCell ⟨psB, i, none⟩ (ptr (w.heap.size + 1))).alloc F).alloc (.cells cs 41)) A' psB mbB i := by
  obtain ⟨W, hW⟩ : ∃ W, W = ((w.setCell ⟨psB, i, none⟩ (ptr (w.heap.size + 1))).alloc F).alloc (.cells cs 41) := ⟨_, rfl⟩
  rw [← hW]
  have hs0 : (w.setCell ⟨psB, i, none⟩ (ptr (w.heap.size + 1))).heap.size = w.heap.size := setCell_size _ _ _
  have hs : ((w.setCell ⟨psB, i, none⟩ (ptr (w.heap.size + 1))).alloc F).heap.size = w.heap.size + 1 := by
    show ((w.setCell _ _).heap.push F).size = _
    rw [Array.size_push, hs0]
  have hsW : W.heap.size = w.heap.size + 2 := by
    rw [hW]
    show (((w.setCell ⟨psB, i, none⟩ (ptr (w.heap.size + 1))).alloc F).heap.push _).size = _
    rw [Array.size_push, hs]
  have hT : Touch (fun b => b = psB) w W := by rw [hW]; exact ((Touch.setCell (S := fun b => b = psB) (Touch.refl _ _) (.inl rfl) _).alloc _).alloc _
  have hps := h.rps.lt
  have hold : ∀ b, b < w.heap.size → b ≠ psB → W.heap[b]? = w.heap[b]? := fun b hb hn => hT.block b hb hn
  have hmne : mbB ≠ psB := fun e => by have := h.tmb; rw [e, h.tps] at this; cases this
  have hnew : W.rowIs (w.heap.size + 1) 41 8 (fun j => (cs[j]?).getD undef) := by
    have h1 := World.rowIs_alloc ((w.setCell ⟨psB, i, none⟩ (ptr (w.heap.size + 1))).alloc F) cs 41 (fun j => (cs[j]?).getD undef) (fun j hj => by rw [Array.getElem?_eq_getElem hj]; rfl)
    rw [hs, hcs] at h1
    rw [hW]
    exact h1
  refine ⟨put1 lab (w.heap.size + 1) (1, 2, i), { A with pa := upd A.pa i (w.heap.size + 1) }, ⟨?_, ?_, ?_, ?_, ?_, ?_⟩⟩
  · exact hL.put1 (hL.move hT (fun b hb => by rw [hb]; exact hL.ge _ _ h.tps)).bel hT.size _ (by omega) (by omega)
  · rw [put1_other _ (by omega)]; exact h.tps
  · rw [put1_other _ (by have := h.rmb.lt; omega)]; exact h.tmb
  · rw [hW]
    refine (((h.rps.set i _).alloc F).alloc _).congr fun j hj => ?_
    by_cases e : j = i
    · subst e
      rw [if_pos rfl, upto_lt _ _ (by omega)]
      show _ = ptr (upd A.pa j _ j)
      rw [upd_same]
    · rw [if_neg e]
      by_cases e2 : j < i
      · rw [upto_lt _ _ e2, upto_lt _ _ (by omega)]
        show _ = ptr (upd A.pa i _ j)
        rw [upd_other _ _ e]
      · rw [upto_ge _ _ (by omega), upto_ge _ _ (by omega)]
  · exact h.rmb.of_block (hold _ h.rmb.lt hmne)
  · intro p hp
    show put1 lab _ _ (upd A.pa i _ p) = _ ∧ PObj W (upd A.pa i _ p) _ _
    by_cases e : p = i
    · subst e
      rw [upd_same, put1_same]
      refine ⟨rfl, _, hnew, ?_, some ⟨w.heap.size, 0, none⟩, f, ?_⟩
      · rw [h2, ← hr]; rfl
      · rw [h5, ← hf]; rfl
    · rw [upd_other _ _ e]
      obtain ⟨h1, h3⟩ := h.pages p (by omega)
      have hlt := hL.lt _ _ h1
      rw [put1_other _ (by omega)]
      refine ⟨h1, h3.of_block (hold _ hlt fun e1 => ?_)⟩
      rw [e1, h.tps] at h1
      cases h1

theorem mb_eq (r f : Nat) : ((2 + (r : Int) + f + 64) + -((2 + (r : Int) + f + 64) % 8) % 8) = bitsOf r f := by
  unfold bitsOf
  omega

set_option maxRecDepth 100000 in
set_option maxHeartbeats 1000000 in
theorem loop3 (I : Inp) (w0 : World) (hA : I.At w0) (hF : I.Fine) (hlp : I.lp ≤ 4096) (psB mbB : Nat) (K : Act → World → Prop) (hK : ∀ a w, M3 I w0 psB mbB a w → K a w) (a : Act) (w : World) (h : I3 I w0 psB mbB a w) :
    Code.wp Yba.prog (nav [1, 1, 1, 1, 1, 1, 1, 1, 1, 0, 1] (Yba.f3.body.getD .skip)) (Exit.then K (bodyPost Yba.prog Yba.f3 (Post w0))) a w := by
  refine wp_block_loop K (I3 I w0 psB mbB) (fun a _ => I.D.np - (intOf (a.tmps.getD 13 undef)).toNat) h ?_
  clear h a w
  intro a w h
  obtain ⟨hL, i, lab, A, hi, e13, hLb, hP⟩ := h
  obtain ⟨x, rfl, hx⟩ := act_fr a hL.size hL.defers
  have e0 := hx _ _ hL.s0
  have e1 := hx _ _ hL.s1
  have e2 := hx _ _ hL.s2
  have e10 := hx _ _ hL.s10
  have e11 := hx _ _ hL.s11
  have e12 := hx _ _ hL.s12
  replace e13 := hx _ _ e13
  clear hx hL
  have HB : Hid (Labs w0 w lab ∧ PG I lab w A psB mbB i) := ⟨hLb, hP⟩
  clear hLb hP
  have hnp : I.D.np ≤ 4096 := by show (if I.lp = 0 then 1 else I.lp) ≤ 4096; split <;> omega
  obtain ⟨np, hnpe⟩ : ∃ np, np = I.D.np := ⟨_, rfl⟩
  have HNP : Hid (np = I.D.np) := hnpe
  rw [← hnpe] at e10 e11 e12 hi hnp
  clear hnpe
  by_cases hil : i < np
  · have hI : (i : Int) < np := by omega
    by_cases hip : i < I.lp
    · obtain ⟨b, off, hp, hb, c0, c1⟩ := (hA.below HB.out.1.bel).pages i hip
      have hr := hF.pr i hip
      have hf := hF.pf i hip
      rw [hp] at e0
      have HP : Hid (I.p0 = some ⟨b, off, none⟩) := hp
      obtain ⟨r, hre⟩ : ∃ r, r = I.pr i := ⟨_, rfl⟩
      obtain ⟨f, hfe⟩ : ∃ f, f = I.pf i := ⟨_, rfl⟩
      have HE : Hid (r = I.pr i ∧ f = I.pf i) := ⟨hre, hfe⟩
      rw [← hre] at hr c0
      rw [← hfe] at hf c1
      clear hp hre hfe
      have hI2 : (i : Int) < I.lp := by omega
      simp only [fr, Nat.reduceAdd, e0, e1, e2, e10, e11, e12, e13]
      clear e0 e1 e2 e10 e11 e12 e13
      go_upto_region 28 with fail
      have er : (r : Int) % 512 = ((r % 512 : Nat) : Int) := by omega
      have ef : (f : Int) % 64 = ((f % 64 : Nat) : Int) := by omega
      rw [er, ef]
      clear er ef
      have HD : Hid (r % 512 = I.D.pr i ∧ f % 64 = I.D.pf i) := by
        show r % 512 = (if i < I.lp then I.pr i % 512 else 0) ∧ f % 64 = (if i < I.lp then I.pf i % 64 else 0)
        rw [if_pos hip, if_pos hip, ← HE.out.1, ← HE.out.2]
        exact ⟨rfl, rfl⟩
      have hr' : r % 512 < 512 := by omega
      have hf' : f % 64 < 64 := by omega
      generalize r % 512 = r' at *
      generalize f % 64 = f' at *
      clear hr hf c0 c1 HE hb hip hI2
      have hmk := run_makeK (P := Yba.prog) 38 177 _ 2 16 Yba.underlying38 info40 f' (by omega) (by omega)
      have p0 := HB.out.2.rps.cell (i := i) (by rw [← HNP.out]; exact hil)
      have z0 := HB.out.2.rps.frozen i
      have hpl := HB.out.2.rps.lt
      go_upto_region 29 with fail
      obtain ⟨lab', A', hm⟩ := HB.out.2.page HB.out.1 HD.out.1 HD.out.2 (Obj.cells (madeCells #[Value.int IntKind.i64 0, Value.int IntKind.i64 0] (f' * 2)) 177)
        #[Value.pointer none, Value.pointer none, Value.int IntKind.i64 r', Value.int IntKind.i64 0, Value.int IntKind.i64 0, Value.slice (some ⟨w.heap.size, 0, none⟩) f' f', Value.pointer none, Value.pointer none] rfl rfl rfl
      unfold ptr at hm
      clear p0 z0 hpl hmk HB
      generalize World.alloc _ _ = W at *
      have HW : Hid (PGm I w0 lab' W A' psB mbB i) := hm
      clear hm
      have q0 := HW.out.rmb.cell (i := i) (by rw [← HNP.out]; exact hil)
      have y0 := HW.out.rmb.frozen i
      go_wp2_with fail
      have hmbv : Value.int .i64 (2 + (r' : Int) + f' + 64 + -((2 + (r' : Int) + f' + 64) % 8) % 8) = I.mb i := by
        unfold Inp.mb
        rw [mb_eq, HD.out.1, HD.out.2]
      rw [hmbv]
      refine ⟨⟨⟨⟨rfl, rfl, by rw [HP.out]; rfl, rfl, rfl⟩, by rw [← HNP.out]; rfl, by rw [← HNP.out]; rfl, by rw [← HNP.out]; rfl⟩, i + 1, lab', A', by rw [← HNP.out]; omega, rfl, HW.out.next.1, HW.out.next.2⟩, ?_⟩
      show I.D.np - (intOf (.int .i64 ((i : Int) + 1))).toNat < I.D.np - (intOf (.int .i64 (i : Int))).toNat
      rw [← HNP.out]
      simp [intOf]
      omega
    · have hI2 : ¬ (i : Int) < I.lp := by omega
      have HD : Hid (0 = I.D.pr i ∧ 0 = I.D.pf i) := by
        show 0 = (if i < I.lp then I.pr i % 512 else 0) ∧ 0 = (if i < I.lp then I.pf i % 64 else 0)
        rw [if_neg hip, if_neg hip]
        exact ⟨rfl, rfl⟩
      have hmk : ∀ w, (Instr.makeSlice 38 (.int .i64 0) (.int .i64 0)).run Yba.prog w = _ := fun w => run_makeK (P := Yba.prog) 38 177 _ 2 16 Yba.underlying38 info40 0 (by omega) (by omega) w
      have p0 := HB.out.2.rps.cell (i := i) (by rw [← HNP.out]; exact hil)
      have z0 := HB.out.2.rps.frozen i
      have hpl := HB.out.2.rps.lt
      simp only [fr, Nat.reduceAdd, e0, e1, e2, e10, e11, e12, e13]
      clear e0 e1 e2 e10 e11 e12 e13
      go_upto_region 29 with fail
      obtain ⟨lab', A', hm⟩ := HB.out.2.page HB.out.1 HD.out.1 HD.out.2 (Obj.cells (madeCells #[Value.int IntKind.i64 0, Value.int IntKind.i64 0] (0 * 2)) 177)
        #[Value.pointer none, Value.pointer none, Value.int IntKind.i64 0, Value.int IntKind.i64 0, Value.int IntKind.i64 0, Value.slice (some ⟨w.heap.size, 0, none⟩) 0 0, Value.pointer none, Value.pointer none] rfl rfl rfl
      unfold ptr at hm
      simp only [Nat.zero_mul] at hm ⊢
      clear p0 z0 hpl hmk HB
      generalize World.alloc _ _ = W at *
      have HW : Hid (PGm I w0 lab' W A' psB mbB i) := hm
      clear hm
      have q0 := HW.out.rmb.cell (i := i) (by rw [← HNP.out]; exact hil)
      have y0 := HW.out.rmb.frozen i
      go_wp2_with fail
      have hmbv : Value.int .i64 72 = I.mb i := by
        unfold Inp.mb
        rw [← HD.out.1, ← HD.out.2]
        rfl
      rw [hmbv]
      refine ⟨⟨⟨⟨rfl, rfl, rfl, rfl, rfl⟩, by rw [← HNP.out]; rfl, by rw [← HNP.out]; rfl, by rw [← HNP.out]; rfl⟩, i + 1, lab', A', by rw [← HNP.out]; omega, rfl, HW.out.next.1, HW.out.next.2⟩, ?_⟩
      show I.D.np - (intOf (.int .i64 ((i : Int) + 1))).toNat < I.D.np - (intOf (.int .i64 (i : Int))).toNat
      rw [← HNP.out]
      simp [intOf]
      omega
  · have hI : ¬ (i : Int) < np := by omega
    have hie : i = np := by omega
    subst hie
    simp only [fr, Nat.reduceAdd, e0, e1, e2, e10, e11, e12, e13]
    clear e0 e1 e2 e10 e11 e12 e13
    go_wp2_with fail
    refine ⟨⟨⟨rfl, rfl, rfl, rfl, rfl⟩, by rw [← HNP.out]; rfl, by rw [← HNP.out]; rfl, by rw [← HNP.out]; rfl⟩, lab, A, HB.out.1, ?_⟩
    rw [← HNP.out]
    exact HB.out.2
end Go.Proofs.Ybulkeyzg
