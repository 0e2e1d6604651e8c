import Derived.Test.YbulkeyzgA3
namespace Go.Proofs.Ybulkeyzg
open Go.RowKit

theorem Touch.setObj {S : Nat → Prop} {w w' : World} (h : Touch S w w') {b : Nat} (hb : S b ∨ w.heap.size ≤ b) (o : Obj) : Touch S w { w' with heap := w'.heap.setIfInBounds b o } :=
  ⟨h.os, h.tape, h.output, by show w.heap.size ≤ (w'.heap.setIfInBounds b o).size; rw [Array.size_setIfInBounds]; exact h.size, fun k hk hn => by
    show (w'.heap.setIfInBounds b o)[k]? = _
    have hne : b ≠ k := by
      rintro rfl
      rcases hb with hb | hb
      · exact hn hb
      · omega
    rw [Array.getElem?_setIfInBounds_ne hne]
    exact h.block k hk hn⟩

set_option maxRecDepth 20000 in
theorem addJoinable_any (w : World) (pa : Nat → Nat) (np ta ma : Nat) (τ : TS) (h : TObj w pa ta ma τ) (ha : Apart w pa np) (hk : All (Ok np) τ.kv) (k : Key) (hko : Ok np k) (b : Int) :
    Calls Yba.prog 26 #[.pointer (some ⟨ta, 0, none⟩), keyV pa k, .int .i64 b] w fun e w' => e = .returned (.tuple #[]) ∧ TObj w' pa ta ma ⟨τ.s, τ.f, put k (mx (get k τ.kv) b) τ.kv⟩ ∧ Touch (fun x => x = ma) w w' := by
  obtain ⟨⟨f, h1, h2, h3, h4, h5⟩, h6⟩ := h
  have c11 := h1.cell (i := 11) (by omega)
  rw [h4] at c11
  have hlt := h1.lt
  have HT : Hid (TObj w pa ta ma τ) := ⟨⟨f, h1, h2, h3, h4, h5⟩, h6⟩
  obtain ⟨p, m, q⟩ := k
  obtain ⟨W, hW⟩ : ∃ W : World, W = (w.alloc (.cells #[.pointer (some ⟨pa p, 0, none⟩), .int .u8 m, .int .u8 q] 63)).drew := ⟨_, rfl⟩
  have hold : ∀ x, x < w.heap.size → W.heap[x]? = w.heap[x]? := fun x hx => by rw [hW]; exact Go.Deep.blk_alloc_lt w _ _ hx
  have haW : Apart W pa np := ⟨fun i hi => by
    obtain ⟨c, t, hc⟩ := ha.cells i hi
    have : pa i < w.heap.size := by
      rcases Nat.lt_or_ge (pa i) w.heap.size with hlt | hge
      · exact hlt
      · rw [Array.getElem?_eq_none hge] at hc; cases hc
    exact ⟨c, t, (hold _ this).trans hc⟩, ha.inj⟩
  have hml : ma < w.heap.size := by
    obtain ⟨es, c, hb, _⟩ := h6
    rcases Nat.lt_or_ge ma w.heap.size with hlt | hge
    · exact hlt
    · rw [Array.getElem?_eq_none hge] at hb; cases hb
  have hmW : MapIs W ma pa τ.kv := h6.of_block (hold _ hml)
  have hl := lookup_run haW hmW hk hko
  obtain ⟨o, ho, hm⟩ := update_run haW hmW hk hko (mx (get (p, m, q) τ.kv) b)
  have HM : Hid (MapIs { W with heap := W.heap.setIfInBounds ma o } ma pa (put (p, m, q) (mx (get (p, m, q) τ.kv) b) τ.kv)) := hm
  have HTo : Hid (Touch (fun x => x = ma) w { W with heap := W.heap.setIfInBounds ma o }) := by
    unfold Hid
    rw [hW]
    exact Touch.setObj (S := fun x => x = ma) (((Touch.refl _ _).alloc _).drew) (.inl rfl) o
  have HEND : Hid (TObj { W with heap := W.heap.setIfInBounds ma o } pa ta ma ⟨τ.s, τ.f, put (p, m, q) (mx (get (p, m, q) τ.kv) b) τ.kv⟩ ∧ Touch (fun x => x = ma) w { W with heap := W.heap.setIfInBounds ma o }) := by
    refine ⟨⟨⟨f, h1.of_block ?_, h2, h3, h4, h5⟩, HM.out⟩, HTo.out⟩
    exact HTo.out.block ta hlt (by exact HT.out.ne)
  unfold keyV at ho hl
  simp only at ho hl
  subst hW
  generalize get (p, m, q) τ.kv = g at *
  unfold mx at ho
  clear hm hold haW hml hmW h1 h2 h3 h4 h5 h6 hk hko ha HM HTo
  unfold keyV
  simp only
  go_enter Yba.func26, Yba.ntmps26
  go_wp2_with fail
  go_region
  go_wp2_with fail
  all_goals
    go_end0
    exact ⟨rfl, HEND.out⟩

theorem TObj.Apart {w w' : World} {pa : Nat → Nat} {np : Nat} (h : Apart w pa np) (S : Nat → Prop) (hT : Touch S w w') (hS : ∀ i, i < np → ¬ S (pa i)) : Ybulkeyzg.Apart w' pa np :=
  ⟨fun i hi => by
    obtain ⟨c, t, hc⟩ := h.cells i hi
    have : pa i < w.heap.size := by
      rcases Nat.lt_or_ge (pa i) w.heap.size with hlt | hge
      · exact hlt
      · rw [Array.getElem?_eq_none hge] at hc; cases hc
    exact ⟨c, t, (hT.block _ this (hS i hi)).trans hc⟩, h.inj⟩

theorem MapIs.lt {w : World} {b : Nat} {pa : Nat → Nat} {kv : KV} (h : MapIs w b pa kv) : b < w.heap.size := by
  obtain ⟨es, c, hb, _⟩ := h
  rcases Nat.lt_or_ge b w.heap.size with hlt | hge
  · exact hlt
  · rw [Array.getElem?_eq_none hge] at hb; cases hb
theorem TObj.lt {w : World} {pa : Nat → Nat} {ta ma : Nat} {τ : TS} (h : TObj w pa ta ma τ) : ta < w.heap.size := by
  obtain ⟨⟨f, h1, _⟩, _⟩ := h
  exact h1.lt

set_option maxRecDepth 20000 in
set_option maxHeartbeats 1000000 in
theorem keep_any (w : World) (pa : Nat → Nat) (np ta ma ra p r f : Nat) (τ : TS) (heap : Int) (sup : Bool) (hv : Value) (wa : Option Addr) (wl wc : Nat) (h : TObj w pa ta ma τ) (ha : Apart w pa np) (hk : All (Ok np) τ.kv)
    (hp : p < np) (hP : PObj w (pa p) r f) (hr : r < 512) (hf : f < 64) (hR : RObj w ra (pa p) heap sup hv (.slice wa wl wc)) (m k : Nat) (hm3 : m < 3) (hk4 : k < 4)
    (hta : ∀ i, i < np → pa i ≠ ta) (hma : ∀ i, i < np → pa i ≠ ma) (hra : ra ≠ ta) :
    Calls Yba.prog 17 #[.pointer (some ⟨ta, 0, none⟩), .pointer (some ⟨ra, 0, none⟩), .agg #[.int .u8 m, .int .u8 k]] w fun e w' => e = .returned (.tuple #[]) ∧ TObj w' pa ta ma (keepT τ (p, m, kd sup k) heap (wl == 0) (bitsOf r f)) ∧ Touch (fun x => x = ta ∨ x = ma) w w' := by
  obtain ⟨w1, hw1⟩ : ∃ w1, w1 = w.alloc (.cells #[.int .u8 m, .int .u8 k] 61) := ⟨_, rfl⟩
  have t1 : Touch (fun _ => False) w w1 := by rw [hw1]; exact (Touch.refl _ _).alloc _
  have hRl : ra < w.heap.size := by obtain ⟨g, h1, _⟩ := hR; exact h1.lt
  have hS := structOf_any w1 ra (pa p) heap sup hv (.slice wa wl wc) m k (hR.of_block (t1.block _ hRl id))
  have HT1 : Hid (Touch (fun _ => False) w w1) := t1
  have HAll : Hid (TObj w pa ta ma τ ∧ Apart w pa np ∧ All (Ok np) τ.kv ∧ PObj w (pa p) r f ∧ RObj w ra (pa p) heap sup hv (.slice wa wl wc)) := ⟨h, ha, hk, hP, hR⟩
  have HN : Hid (r < 512 ∧ f < 64 ∧ p < np ∧ m < 3 ∧ kd sup k < 4 ∧ (∀ i, i < np → pa i ≠ ta) ∧ (∀ i, i < np → pa i ≠ ma) ∧ ra ≠ ta) := ⟨hr, hf, hp, hm3, by unfold kd; split <;> omega, hta, hma, hra⟩
  clear h ha hk hP hR t1 hr hf hp hm3 hk4 hta hma hra
  generalize kd sup k = kk at *
  subst hw1
  go_enter Yba.func17, Yba.ntmps17
  go_upto_region 2 with fail
  refine hS.mono ?_
  rintro e w2 ⟨rfl, t2⟩
  have HT2 : Hid (Touch (fun _ => False) w w2) := HT1.out.trans t2
  clear t2 HT1 hS
  go_upto_region 2 with fail
  have hkb := World.rowIs_alloc w2 #[.pointer (some ⟨pa p, 0, none⟩), .int .u8 m, .int .u8 kk] 63 (fun i => if i = 0 then .pointer (some ⟨pa p, 0, none⟩) else if i = 1 then .int .u8 m else .int .u8 kk) (fun i hi => by
    match i, hi with
    | 0, _ => rfl
    | 1, _ => rfl
    | 2, _ => rfl
    | n + 3, h => simp at h; omega)
  have HT3 : Hid (Touch (fun _ => False) w (w2.alloc (.cells #[.pointer (some ⟨pa p, 0, none⟩), .int .u8 m, .int .u8 kk] 63))) := HT2.out.alloc _
  have HKB : Hid (w.heap.size ≤ w2.heap.size) := HT2.out.size
  clear HT2
  generalize w2.alloc (.cells #[.pointer (some ⟨pa p, 0, none⟩), .int .u8 m, .int .u8 kk] 63) = v at *
  generalize w2.heap.size = kb at *
  have k0 := hkb.cell (i := 0) (by simp)
  have k1 := hkb.cell (i := 1) (by simp)
  have k2 := hkb.cell (i := 2) (by simp)
  simp only [if_true, if_false, show ((1 : Nat) = 0) = False from by simp, show ((2 : Nat) = 0) = False from by simp, show ((2 : Nat) = 1) = False from by simp] at k0 k1 k2
  have HKV : Hid (kb < v.heap.size) := hkb.lt
  clear hkb
  obtain ⟨hT, hA, hAll, hP, hR⟩ := HAll.out
  have hPl : pa p < w.heap.size := by obtain ⟨g, h1, _⟩ := hP; exact h1.lt
  have hTv : TObj v pa ta ma τ := hT.of_blocks (HT3.out.block _ hT.lt id) (HT3.out.block _ hT.map.lt id)
  have hAv : Apart v pa np := TObj.Apart hA _ HT3.out (fun _ _ h => h)
  have hPv : PObj v (pa p) r f := hP.of_block (HT3.out.block _ hPl id)
  have hRv : RObj v ra (pa p) heap sup hv (.slice wa wl wc) := hR.of_block (HT3.out.block _ hRl id)
  have HV : Hid (TObj v pa ta ma τ ∧ Apart v pa np ∧ All (Ok np) τ.kv ∧ PObj v (pa p) r f) := ⟨hTv, hAv, hAll, hPv⟩
  have HLT : Hid (ta < v.heap.size ∧ ma < v.heap.size ∧ ra < v.heap.size) := ⟨hTv.lt, hTv.map.lt, Nat.lt_of_lt_of_le hRl HT3.out.size⟩
  have HNE : Hid (kb ≠ ta ∧ kb ≠ ma ∧ ra ≠ ma) := by
    have h1 := hT.lt
    have h2 := hT.map.lt
    have h3 := HKB.out
    refine ⟨by omega, by omega, ?_⟩
    obtain ⟨g2, ⟨c2, r1, _⟩, _⟩ := hR
    obtain ⟨es, cl, r2, _⟩ := hT.map
    rintro rfl
    rw [r1] at r2
    cases r2
  obtain ⟨-, -, hp, hm3, hk4, -⟩ := HN.out
  have hl : ∀ x, (Instr.lookup 46 (.map (some ma)) (.agg #[.pointer (some ⟨pa p, 0, none⟩), .int .u8 m, .int .u8 kk]) false).run Yba.prog (v.drewN x) = .ok (.int .i64 (get (p, m, kk) τ.kv)) (v.drewN x) := fun x =>
    lookup_run (w := v.drewN x) (k := (p, m, kk)) ⟨hAv.cells, hAv.inj⟩ hTv.map hAll ⟨hp, hm3, hk4⟩
  obtain ⟨⟨g1, o1, -, -, o11, -⟩, -⟩ := hTv
  have c11 := o1.cell (i := 11) (by omega)
  rw [o11] at c11
  obtain ⟨g2, r1, r2, r4, -, r10, -⟩ := hRv
  have d2 := r1.cell (i := 2) (by omega)
  have d4 := r1.cell (i := 4) (by omega)
  have d10 := r1.cell (i := 10) (by omega)
  rw [r2] at d2
  rw [r4] at d4
  rw [r10] at d10
  clear o1 o11 r1 r2 r4 r10 hT hA hAll hP hR hAv hPv HAll hPl hRl hp hm3 hk4
  generalize hg : get (p, m, kk) τ.kv = g at *
  have HG : Hid (get (p, m, kk) τ.kv = g) := hg
  clear hg
  have HK : Hid (keepT τ (p, m, kk) heap (wl == 0) (bitsOf r f) = if heap < g ∧ (wl == 0) = true then τ else ⟨wrap64 (τ.s + 1), newF τ.f (bitsOf r f), put (p, m, kk) (mx g (newB τ.f (bitsOf r f))) τ.kv⟩) := by
    unfold keepT Hid
    rw [HG.out]
  by_cases hh : heap < g
  · by_cases hw0 : wl = 0
    · have HK' : Hid (keepT τ (p, m, kk) heap (wl == 0) (bitsOf r f) = τ) := by
        unfold Hid
        rw [HK.out, if_pos ⟨hh, by simp [hw0]⟩]
      have HWL : Hid (wl = 0) := hw0
      have hw1 : ((wl : Int) == 0) = true := by simp [hw0]
      clear hw0
      go_quiet (fail)
      go_wp2_with fail
      refine bodyPost_ret (results_none rfl _ _ _) rfl ?_
      exact ⟨rfl, by rw [HK'.out]; exact HV.out.1.drewN nq, (HT3.out.mono fun _ _ h => h.elim).drewN nq⟩
    · have HK' : Hid (keepT τ (p, m, kk) heap (wl == 0) (bitsOf r f) = ⟨wrap64 (τ.s + 1), newF τ.f (bitsOf r f), put (p, m, kk) (mx g (newB τ.f (bitsOf r f))) τ.kv⟩) := by
        unfold Hid
        rw [HK.out, if_neg fun h => hw0 (by simpa using h.2)]
      have hw1 : ((wl : Int) == 0) = false := by simp; omega
      clear hw0 HK
      go_quiet (fail)
      go_upto_region 3 with fail
      obtain ⟨V, hV⟩ : ∃ V, V = v.drewN nq := ⟨_, rfl⟩
      obtain ⟨hr, hf, hp, hm3, hk4, hta, hma, hra⟩ := HN.out
      obtain ⟨hkta, hkma, hrma⟩ := HNE.out
      have hTV : TObj V.drew pa ta ma τ := by rw [hV]; exact ⟨HV.out.1.obj, HV.out.1.map⟩
      have hAV : Apart V.drew pa np := by rw [hV]; exact ⟨HV.out.2.1.cells, HV.out.2.1.inj⟩
      have hAll := HV.out.2.2.1
      have hPV : PObj V.drew (pa p) r f := by rw [hV]; exact HV.out.2.2.2
      have k0' : V.cell? ⟨kb, 0, none⟩ = some (.pointer (some ⟨pa p, 0, none⟩)) := by rw [hV]; exact k0
      have k1' : V.cell? ⟨kb, 1, none⟩ = some (.int .u8 m) := by rw [hV]; exact k1
      have k2' : V.cell? ⟨kb, 2, none⟩ = some (.int .u8 kk) := by rw [hV]; exact k2
      have d2' : V.cell? ⟨ra, 2, none⟩ = some (.pointer (some ⟨pa p, 0, none⟩)) := by rw [hV]; exact d2
      have HTV : Hid (Touch (fun x => x = ta ∨ x = ma) w V.drew) := by
        unfold Hid
        rw [hV]
        exact ((HT3.out.mono (fun _ _ h => h.elim)).drewN nq).drew
      have hkV : kb < V.drew.heap.size := by rw [hV]; exact HKV.out
      have hrV : ra < V.drew.heap.size := by rw [hV]; exact HLT.out.2.2
      rw [← hV]
      clear hV k0 k1 k2 d2 d4 d10 c11 hl HV HT3 HLT HNE HKV HKB
      go_region_held3 (fun w' => w'.cell? ⟨kb, 0, none⟩ = some (.pointer (some ⟨pa p, 0, none⟩)) ∧ w'.cell? ⟨kb, 1, none⟩ = some (.int .u8 m) ∧ w'.cell? ⟨kb, 2, none⟩ = some (.int .u8 kk) ∧ w'.cell? ⟨ra, 2, none⟩ = some (.pointer (some ⟨pa p, 0, none⟩))) (first | exact ⟨k0', k1', k2', d2'⟩ | exact ⟨y0, y1, y2, y3⟩ | exact ⟨z0, z1, z2, z3⟩)
        (first
          | (go_at_call 18; refine (newStruct_any V.drew pa ta ma (pa p) r f τ hTV hPV hr hf).mono ?_; rintro e V1 ⟨rfl, hT1, t1⟩; have y0 := (World.cell?_of_block (a := ⟨kb, 0, none⟩) (t1.block kb hkV hkta)).trans k0'; have y1 := (World.cell?_of_block (a := ⟨kb, 1, none⟩) (t1.block kb hkV hkta)).trans k1'; have y2 := (World.cell?_of_block (a := ⟨kb, 2, none⟩) (t1.block kb hkV hkta)).trans k2'; have y3 := (World.cell?_of_block (a := ⟨ra, 2, none⟩) (t1.block ra hrV hra)).trans d2')
          | (go_at_call 26; refine (addJoinable_any V1 pa np ta ma _ hT1 (TObj.Apart hAV _ t1 hta) hAll (p, m, kk) ⟨hp, hm3, hk4⟩ _).mono ?_; rintro e V2 ⟨rfl, hT2, t2⟩; have z0 := (World.cell?_of_block (a := ⟨kb, 0, none⟩) (t2.block kb (Nat.lt_of_lt_of_le hkV t1.size) hkma)).trans y0; have z1 := (World.cell?_of_block (a := ⟨kb, 1, none⟩) (t2.block kb (Nat.lt_of_lt_of_le hkV t1.size) hkma)).trans y1; have z2 := (World.cell?_of_block (a := ⟨kb, 2, none⟩) (t2.block kb (Nat.lt_of_lt_of_le hkV t1.size) hkma)).trans y2; have z3 := (World.cell?_of_block (a := ⟨ra, 2, none⟩) (t2.block ra (Nat.lt_of_lt_of_le hrV t1.size) hrma)).trans y3))
      go_wp2_with fail
      go_end0
      refine ⟨rfl, ?_, (HTV.out.trans (t1.mono fun _ _ h => .inl h)).trans (t2.mono fun _ _ h => .inr h)⟩
      rw [HK'.out]
      rw [← HG.out]
      exact hT2
  · have HK' : Hid (keepT τ (p, m, kk) heap (wl == 0) (bitsOf r f) = ⟨wrap64 (τ.s + 1), newF τ.f (bitsOf r f), put (p, m, kk) (mx g (newB τ.f (bitsOf r f))) τ.kv⟩) := by
      unfold Hid
      rw [HK.out, if_neg fun h => hh h.1]
    clear HK
    go_quiet (fail)
    go_upto_region 3 with fail
    obtain ⟨V, hV⟩ : ∃ V, V = v.drewN nq := ⟨_, rfl⟩
    obtain ⟨hr, hf, hp, hm3, hk4, hta, hma, hra⟩ := HN.out
    obtain ⟨hkta, hkma, hrma⟩ := HNE.out
    have hTV : TObj V.drew pa ta ma τ := by rw [hV]; exact ⟨HV.out.1.obj, HV.out.1.map⟩
    have hAV : Apart V.drew pa np := by rw [hV]; exact ⟨HV.out.2.1.cells, HV.out.2.1.inj⟩
    have hAll := HV.out.2.2.1
    have hPV : PObj V.drew (pa p) r f := by rw [hV]; exact HV.out.2.2.2
    have k0' : V.cell? ⟨kb, 0, none⟩ = some (.pointer (some ⟨pa p, 0, none⟩)) := by rw [hV]; exact k0
    have k1' : V.cell? ⟨kb, 1, none⟩ = some (.int .u8 m) := by rw [hV]; exact k1
    have k2' : V.cell? ⟨kb, 2, none⟩ = some (.int .u8 kk) := by rw [hV]; exact k2
    have d2' : V.cell? ⟨ra, 2, none⟩ = some (.pointer (some ⟨pa p, 0, none⟩)) := by rw [hV]; exact d2
    have HTV : Hid (Touch (fun x => x = ta ∨ x = ma) w V.drew) := by
      unfold Hid
      rw [hV]
      exact ((HT3.out.mono (fun _ _ h => h.elim)).drewN nq).drew
    have hkV : kb < V.drew.heap.size := by rw [hV]; exact HKV.out
    have hrV : ra < V.drew.heap.size := by rw [hV]; exact HLT.out.2.2
    rw [← hV]
    clear hV k0 k1 k2 d2 d4 d10 c11 hl HV HT3 HLT HNE HKV HKB
    go_region_held3 (fun w' => w'.cell? ⟨kb, 0, none⟩ = some (.pointer (some ⟨pa p, 0, none⟩)) ∧ w'.cell? ⟨kb, 1, none⟩ = some (.int .u8 m) ∧ w'.cell? ⟨kb, 2, none⟩ = some (.int .u8 kk) ∧ w'.cell? ⟨ra, 2, none⟩ = some (.pointer (some ⟨pa p, 0, none⟩))) (first | exact ⟨k0', k1', k2', d2'⟩ | exact ⟨y0, y1, y2, y3⟩ | exact ⟨z0, z1, z2, z3⟩)
      (first
        | (go_at_call 18; refine (newStruct_any V.drew pa ta ma (pa p) r f τ hTV hPV hr hf).mono ?_; rintro e V1 ⟨rfl, hT1, t1⟩; have y0 := (World.cell?_of_block (a := ⟨kb, 0, none⟩) (t1.block kb hkV hkta)).trans k0'; have y1 := (World.cell?_of_block (a := ⟨kb, 1, none⟩) (t1.block kb hkV hkta)).trans k1'; have y2 := (World.cell?_of_block (a := ⟨kb, 2, none⟩) (t1.block kb hkV hkta)).trans k2'; have y3 := (World.cell?_of_block (a := ⟨ra, 2, none⟩) (t1.block ra hrV hra)).trans d2')
        | (go_at_call 26; refine (addJoinable_any V1 pa np ta ma _ hT1 (TObj.Apart hAV _ t1 hta) hAll (p, m, kk) ⟨hp, hm3, hk4⟩ _).mono ?_; rintro e V2 ⟨rfl, hT2, t2⟩; have z0 := (World.cell?_of_block (a := ⟨kb, 0, none⟩) (t2.block kb (Nat.lt_of_lt_of_le hkV t1.size) hkma)).trans y0; have z1 := (World.cell?_of_block (a := ⟨kb, 1, none⟩) (t2.block kb (Nat.lt_of_lt_of_le hkV t1.size) hkma)).trans y1; have z2 := (World.cell?_of_block (a := ⟨kb, 2, none⟩) (t2.block kb (Nat.lt_of_lt_of_le hkV t1.size) hkma)).trans y2; have z3 := (World.cell?_of_block (a := ⟨ra, 2, none⟩) (t2.block ra (Nat.lt_of_lt_of_le hrV t1.size) hrma)).trans y3))
    go_wp2_with fail
    go_end0
    refine ⟨rfl, ?_, (HTV.out.trans (t1.mono fun _ _ h => .inl h)).trans (t2.mono fun _ _ h => .inr h)⟩
    rw [HK'.out]
    rw [← HG.out]
    exact hT2
end Go.Proofs.Ybulkeyzg
