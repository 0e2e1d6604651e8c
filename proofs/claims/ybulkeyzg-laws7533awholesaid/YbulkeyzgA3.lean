import Derived.Test.YbulkeyzgA2
import Derived.Deep.QuietTactic
import Derived.BigQuiet
import Derived.Deep.DeepCutAuto
import Derived.Deep.CutBlock
import Derived.Deep.RegionHeld3
import Derived.Deep.RegionLaw
namespace Go.Proofs.Ybulkeyzg
open Go.RowKit

/-- a transaction's state -/
structure TS where
  s : Int
  f : Int
  kv : KV

/-- a new structure's bits, and how many were floored behind it -/
def newB (f b : Int) : Int := if b ≤ 320 ∧ f < 8 then 320 else b
def newF (f b : Int) : Int := if b ≤ 320 ∧ f < 8 then wrap64 (f + 1) else f
def mx (a b : Int) : Int := if a < b then b else a
def newT (τ : TS) (b : Int) : TS := ⟨wrap64 (τ.s + 1), newF τ.f b, τ.kv⟩
def keepT (τ : TS) (k : Key) (heap : Int) (nowait : Bool) (b : Int) : TS :=
  if heap < get k τ.kv ∧ nowait = true then τ else ⟨wrap64 (τ.s + 1), newF τ.f b, put k (mx (get k τ.kv) (newB τ.f b)) τ.kv⟩

/-- the transaction's object and its map -/
structure TObj (w : World) (pa : Nat → Nat) (ta ma : Nat) (τ : TS) : Prop where
  obj : ∃ f, w.rowIs ta 53 13 f ∧ f 9 = .int .i64 τ.s ∧ f 10 = .int .i64 τ.f ∧ f 11 = .map (some ma) ∧ f 12 = .map none
  map : MapIs w ma pa τ.kv
/-- a page's object -/
def PObj (w : World) (pp : Nat) (r f : Nat) : Prop := ∃ g, w.rowIs pp 41 8 g ∧ g 2 = .int .i64 r ∧ ∃ A c, g 5 = .slice A f c
def bitsOf (r f : Nat) : Int := ((2 + r + f + 64 + 7 : Nat) / 8 * 8 : Nat)

theorem rowIs_drewN {w : World} {b : Nat} {t : TypeId} {n : Nat} {f : Nat → Value} (h : w.rowIs b t n f) (q : Nat) : (w.drewN q).rowIs b t n f := h
theorem PObj.drewN {w : World} {pp r f : Nat} (h : PObj w pp r f) (q : Nat) : PObj (w.drewN q) pp r f := h

theorem places_any (w : World) (pp r f : Nat) (h : PObj w pp r f) (hr : r < 512) (hf : f < 64) :
    Calls Yba.prog 36 #[.pointer (some ⟨pp, 0, none⟩)] w fun e w' => e = .returned (.int .i64 (2 + r + f : Nat)) ∧ ∃ q, w' = w.drewN q := by
  obtain ⟨g, hg, h2, A, c, h5⟩ := h
  have c2 := hg.cell (i := 2) (by omega)
  have c5 := hg.cell (i := 5) (by omega)
  rw [h2] at c2
  rw [h5] at c5
  clear h2 h5 hg
  go_enter Yba.func36, Yba.ntmps36
  go_wp2_with fail
  go_quiet (fail)
  go_wp2_with fail
  go_ret
  exact ⟨by simp, _, rfl⟩

theorem lockBits_any (w : World) (pp r f : Nat) (h : PObj w pp r f) (hr : r < 512) (hf : f < 64) :
    Calls Yba.prog 27 #[.pointer (some ⟨pp, 0, none⟩)] w fun e w' => e = .returned (.int .i64 (bitsOf r f)) ∧ ∃ q, w' = w.drewN q := by
  have hc := places_any w pp r f h hr hf
  go_enter Yba.func27, Yba.ntmps27
  go_wp2_with (refine hc.mono ?_; rintro e w' ⟨rfl, q, rfl⟩)
  go_ret
  refine ⟨?_, q, rfl⟩
  unfold bitsOf
  simp

theorem setCell_size (w : World) (a : Addr) (v : Value) : (w.setCell a v).heap.size = w.heap.size := by unfold World.setCell; split <;> simp

theorem MapIs.of_block {w w' : World} {b : Nat} {pa : Nat → Nat} {kv : KV} (h : MapIs w b pa kv) (e : w'.heap[b]? = w.heap[b]?) : MapIs w' b pa kv := by
  obtain ⟨es, c, h1, h2⟩ := h
  exact ⟨es, c, e.trans h1, h2⟩
theorem TObj.of_blocks {w w' : World} {pa : Nat → Nat} {ta ma : Nat} {τ : TS} (h : TObj w pa ta ma τ) (e1 : w'.heap[ta]? = w.heap[ta]?) (e2 : w'.heap[ma]? = w.heap[ma]?) : TObj w' pa ta ma τ := by
  obtain ⟨⟨f, h1, h2⟩, h3⟩ := h
  exact ⟨⟨f, h1.of_block e1, h2⟩, h3.of_block e2⟩
theorem PObj.of_block {w w' : World} {pp r f : Nat} (h : PObj w pp r f) (e : w'.heap[pp]? = w.heap[pp]?) : PObj w' pp r f := by
  obtain ⟨g, h1, h2⟩ := h
  exact ⟨g, h1.of_block e, h2⟩
theorem TObj.ne {w : World} {pa : Nat → Nat} {ta ma : Nat} {τ : TS} (h : TObj w pa ta ma τ) : ta ≠ ma := by
  obtain ⟨⟨f, ⟨c, h1, _⟩, _⟩, es, cl, h2, _⟩ := h
  rintro rfl
  rw [h1] at h2
  cases h2

theorem TObj.drewN {w : World} {pa : Nat → Nat} {ta ma : Nat} {τ : TS} (h : TObj w pa ta ma τ) (q : Nat) : TObj (w.drewN q) pa ta ma τ := ⟨h.obj, h.map⟩
theorem TObj.setS {w : World} {pa : Nat → Nat} {ta ma : Nat} {τ : TS} (h : TObj w pa ta ma τ) (s' : Int) : TObj (w.setCell ⟨ta, 9, none⟩ (.int .i64 s')) pa ta ma ⟨s', τ.f, τ.kv⟩ := by
  have hne := h.ne
  obtain ⟨⟨f, h1, h2, h3, h4, h5⟩, h6⟩ := h
  refine ⟨⟨_, h1.set 9 _, ?_, ?_, ?_, ?_⟩, h6.of_block ?_⟩
  · simp
  · simpa using h3
  · simpa using h4
  · simpa using h5
  · rw [Go.Deep.blk_setCell_other _ _ _ _ (by exact fun e => hne e.symm)]
theorem TObj.setF {w : World} {pa : Nat → Nat} {ta ma : Nat} {τ : TS} (h : TObj w pa ta ma τ) (f' : Int) : TObj (w.setCell ⟨ta, 10, none⟩ (.int .i64 f')) pa ta ma ⟨τ.s, f', τ.kv⟩ := by
  have hne := h.ne
  obtain ⟨⟨f, h1, h2, h3, h4, h5⟩, h6⟩ := h
  refine ⟨⟨_, h1.set 10 _, ?_, ?_, ?_, ?_⟩, h6.of_block ?_⟩
  · simpa using h2
  · simp
  · simpa using h4
  · simpa using h5
  · rw [Go.Deep.blk_setCell_other _ _ _ _ (by exact fun e => hne e.symm)]

theorem newStruct_any (w : World) (pa : Nat → Nat) (ta ma pp r f : Nat) (τ : TS) (h : TObj w pa ta ma τ) (hp : PObj w pp r f) (hr : r < 512) (hf : f < 64) :
    Calls Yba.prog 18 #[.pointer (some ⟨ta, 0, none⟩), .pointer (some ⟨pp, 0, none⟩)] w fun e w' => e = .returned (.int .i64 (newB τ.f (bitsOf r f))) ∧ TObj w' pa ta ma (newT τ (bitsOf r f)) ∧ Touch (fun k => k = ta) w w' := by
  have hne : pp ≠ ta := by
    obtain ⟨g, ⟨c, h1, _⟩, _⟩ := hp
    obtain ⟨⟨f, ⟨c', h2, _⟩, _⟩, _⟩ := h
    rintro rfl
    rw [h1] at h2
    cases h2
  have hc := lockBits_any (w.setCell ⟨ta, 9, none⟩ (.int .i64 (wrap64 (τ.s + 1)))) pp r f (hp.of_block (Go.Deep.blk_setCell_other _ _ _ _ hne)) hr hf
  have HT : Hid (TObj w pa ta ma τ) := h
  obtain ⟨⟨g, h1, h2, h3, -⟩, -⟩ := h
  have c9 := h1.cell (i := 9) (by omega)
  have z9 := h1.frozen 9
  have d10 := (h1.set 9 (.int .i64 (wrap64 (τ.s + 1)))).cell (i := 10) (by omega)
  have y10 := (h1.set 9 (.int .i64 (wrap64 (τ.s + 1)))).frozen 10
  simp only [show ((10 : Nat) = 9) = False from by simp, if_false] at d10
  rw [h2] at c9
  rw [h3] at d10
  clear h1 h2 h3 hp
  generalize bitsOf r f = b at *
  by_cases hb : b ≤ 320
  · by_cases hf8 : τ.f < 8
    · have HN : Hid (newB τ.f b = 320 ∧ newF τ.f b = wrap64 (τ.f + 1)) := ⟨if_pos ⟨hb, hf8⟩, if_pos ⟨hb, hf8⟩⟩
      go_enter Yba.func18, Yba.ntmps18
      go_wp2_with (refine hc.mono ?_; rintro e w' ⟨rfl, q, rfl⟩)
      go_ret
      refine ⟨by rw [HN.out.1]; rfl, ?_, (((Touch.refl _ _).setCell (S := fun k => k = ta) (.inl rfl) _).drewN q).setCell (.inl rfl) _⟩
      unfold newT
      rw [HN.out.2]
      exact ((HT.out.setS (wrap64 (τ.s + 1))).drewN q).setF (wrap64 (τ.f + 1))
    · have HN : Hid (newB τ.f b = b ∧ newF τ.f b = τ.f) := ⟨if_neg fun h => hf8 h.2, if_neg fun h => hf8 h.2⟩
      go_enter Yba.func18, Yba.ntmps18
      go_wp2_with (refine hc.mono ?_; rintro e w' ⟨rfl, q, rfl⟩)
      go_ret
      refine ⟨by rw [HN.out.1]; rfl, ?_, ((Touch.refl _ _).setCell (S := fun k => k = ta) (.inl rfl) _).drewN q⟩
      unfold newT
      rw [HN.out.2]
      exact (HT.out.setS (wrap64 (τ.s + 1))).drewN q
  · have HN : Hid (newB τ.f b = b ∧ newF τ.f b = τ.f) := ⟨if_neg fun h => hb h.1, if_neg fun h => hb h.1⟩
    go_enter Yba.func18, Yba.ntmps18
    go_wp2_with (refine hc.mono ?_; rintro e w' ⟨rfl, q, rfl⟩)
    go_ret
    refine ⟨by rw [HN.out.1]; rfl, ?_, ((Touch.refl _ _).setCell (S := fun k => k = ta) (.inl rfl) _).drewN q⟩
    unfold newT
    rw [HN.out.2]
    exact (HT.out.setS (wrap64 (τ.s + 1))).drewN q

/-- a record's object -/
structure RObj (w : World) (ra pp : Nat) (heap : Int) (sup : Bool) (hv wv : Value) : Prop where
  obj : ∃ f, w.rowIs ra 72 14 f ∧ f 2 = .pointer (some ⟨pp, 0, none⟩) ∧ f 4 = .int .i64 heap ∧ f 9 = hv ∧ f 10 = wv ∧ (if sup = true then f 1 = .slice none 0 0 else ∃ a c, f 1 = .slice (some a) 0 c)
theorem RObj.of_block {w w' : World} {ra pp : Nat} {heap : Int} {sup : Bool} {hv wv : Value} (h : RObj w ra pp heap sup hv wv) (e : w'.heap[ra]? = w.heap[ra]?) : RObj w' ra pp heap sup hv wv := by
  obtain ⟨f, h1, h2⟩ := h
  exact ⟨f, h1.of_block e, h2⟩
theorem RObj.drewN {w : World} {ra pp : Nat} {heap : Int} {sup : Bool} {hv wv : Value} (h : RObj w ra pp heap sup hv wv) (q : Nat) : RObj (w.drewN q) ra pp heap sup hv wv := ⟨h.obj⟩

def kd (sup : Bool) (k : Nat) : Nat := if sup = true ∧ k = 1 then 2 else k

theorem eqNil69 (a : Option Addr) (n c : Nat) (w : World) : (binOp .eql 69 (.slice a n c) (.slice none 0 0)).run Yba.prog w = .ok (.bool a.isNone) w :=
  Lib.run_eql_slice_nil (P := Yba.prog) w 69 198 a n c 0 0 Yba.underlying69

theorem hi63 : (Yba.prog.info? 63).map (·.size) = some 3 := by kernel_rfl
set_option maxRecDepth 20000 in
theorem structOf_any (w : World) (ra pp : Nat) (heap : Int) (sup : Bool) (hv wv : Value) (m k : Nat) (h : RObj w ra pp heap sup hv wv) :
    Calls Yba.prog 25 #[.pointer (some ⟨ra, 0, none⟩), .agg #[.int .u8 m, .int .u8 k]] w fun e w' => e = .returned (.agg #[.pointer (some ⟨pp, 0, none⟩), .int .u8 m, .int .u8 (kd sup k)]) ∧ Touch (fun _ => False) w w' := by
  obtain ⟨f, h1, h2, -, -, -, h3⟩ := h
  have c1 := h1.cell (i := 1) (by omega)
  have c2 := h1.cell (i := 2) (by omega)
  rw [h2] at c2
  have hlt := h1.lt
  clear h1 h2
  cases sup with
  | true =>
    simp only [if_true] at h3
    rw [h3] at c1
    clear h3
    have hnil := eqNil69 none 0 0
    simp only [Option.isNone_none] at hnil
    by_cases hk : k = 1
    · subst hk
      have HK : Hid (kd true 1 = 2) := rfl
      go_enter Yba.func25, Yba.ntmps25
      go_wp2_with fail
      go_region
      go_wp2_with fail
      refine bodyPost_ret (results_cell_row rfl _ _ (w.heap.size + 1) 63 _ (0, 0) _ rfl (heap_alloc2_new w _ _) Yba.underlying63 rfl hi63) rfl ?_
      exact ⟨by rw [HK.out]; rfl, (((Touch.refl _ _).alloc _).alloc _).drew⟩
    · have HK : Hid (kd true k = k) := if_neg fun h => hk h.2
      have hk' : ((k : Int) == 1) = false := by simp; omega
      go_enter Yba.func25, Yba.ntmps25
      go_wp2_with fail
      go_region
      go_wp2_with fail
      refine bodyPost_ret (results_cell_row rfl _ _ (w.heap.size + 1) 63 _ (0, 0) _ rfl (heap_alloc2_new w _ _) Yba.underlying63 rfl hi63) rfl ?_
      exact ⟨by rw [HK.out], (((Touch.refl _ _).alloc _).alloc _).drew⟩
  | false =>
    have HK : Hid (kd false k = k) := if_neg fun h => by cases h.1
    simp only [Bool.false_eq_true, if_false] at h3
    obtain ⟨a, c, h3⟩ := h3
    rw [h3] at c1
    clear h3
    have hnil := eqNil69 (some a) 0 c
    simp only [Option.isNone_some] at hnil
    go_enter Yba.func25, Yba.ntmps25
    go_wp2_with fail
    go_region
    go_wp2_with fail
    refine bodyPost_ret (results_cell_row rfl _ _ (w.heap.size + 1) 63 _ (0, 0) _ rfl (heap_alloc2_new w _ _) Yba.underlying63 rfl hi63) rfl ?_
    exact ⟨by rw [HK.out], (((Touch.refl _ _).alloc _).alloc _).drew⟩
end Go.Proofs.Ybulkeyzg
