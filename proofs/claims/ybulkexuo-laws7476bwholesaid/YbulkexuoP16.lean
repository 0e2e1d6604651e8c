import Derived.Test.YbulkexuoP15
namespace Go.Proofs.Ybulkexuo
open Go.RowKit
set_option linter.unusedSimpArgs false
set_option linter.unusedVariables false

/-! ### the plain law -/
theorem ix_zero {R : List Rs} {q : Nat} : ix R q = 0 ↔ ∀ r ∈ R, r.p ≠ q := ⟨ix_none R q, fun h => by
  apply Decidable.byContradiction
  intro hne
  obtain ⟨r, h1, h2⟩ := ix_some R q hne
  exact h r (List.mem_of_getElem? h1) h2⟩
theorem ix_append : ∀ (A B : List Rs) (q : Nat), ix (A ++ B) q = if ix A q ≠ 0 then ix A q else if ix B q = 0 then 0 else A.length + ix B q
  | [], B, q => by
    show ix B q = if (0 : Nat) ≠ 0 then _ else _
    rw [if_neg (by omega)]
    split
    · assumption
    · simp
  | a :: A, B, q => by
    have ih := ix_append A B q
    show (if a.p = q then 1 else if ix (A ++ B) q = 0 then 0 else ix (A ++ B) q + 1) = if (if a.p = q then 1 else if ix A q = 0 then 0 else ix A q + 1) ≠ 0 then (if a.p = q then 1 else if ix A q = 0 then 0 else ix A q + 1) else if ix B q = 0 then 0 else (A.length + 1) + ix B q
    rw [ih]
    by_cases h1 : a.p = q
    · simp [h1]
    · by_cases h2 : ix A q = 0
      · by_cases h3 : ix B q = 0
        · simp [h1, h2, h3]
        · simp [h1, h2, h3]; omega
      · simp [h1, h2]
theorem ix_map {f : Rs → Rs} (hf : ∀ r, (f r).p = r.p) : ∀ (R : List Rs) (q : Nat), ix (R.map f) q = ix R q
  | [], q => rfl
  | a :: R, q => by
    show (if (f a).p = q then 1 else if ix (R.map f) q = 0 then 0 else ix (R.map f) q + 1) = (if a.p = q then 1 else if ix R q = 0 then 0 else ix R q + 1)
    rw [hf, ix_map hf R q]
def a1 (D : PD) (p : Nat) (n : Int) : Bool := !decide (D.off p D.gAt) && decide (n < D.hcnt p)
def c1 (D : PD) (p : Nat) (n : Int) : Bool := a1 D p n && decide (D.hpos p ≤ D.cval (D.hto p))
theorem chk1 (D : PD) (S : SQ) (p : Nat) (n : Int) : (chk D S p n).1 = if c1 D p n = true then rz S.1 ⟨p, n, D.hcnt p, true⟩ else S.1 := by
  unfold chk c1 a1
  by_cases h1 : D.off p D.gAt
  · simp [h1]
  · by_cases h2 : n < D.hcnt p
    · by_cases h3 : D.hpos p ≤ D.cval (D.hto p) <;> simp [h1, h2, h3]
    · simp [h1, h2]
theorem chk2 (D : PD) (S : SQ) (p : Nat) (n : Int) : (chk D S p n).2 = if a1 D p n = true then some (askQ S.2 (D.hto p)) else S.2 := by
  unfold chk a1
  by_cases h1 : D.off p D.gAt
  · simp [h1]
  · by_cases h2 : n < D.hcnt p <;> simp [h1, h2]
/-- the first k are turned -/
def scn (f : Rs → Rs) (R : List Rs) (k : Nat) : List Rs := (R.take k).map f ++ R.drop k
theorem scn_get {f : Rs → Rs} {R : List Rs} {k : Nat} {r : Rs} (h : R[k]? = some r) : (scn f R k)[k]? = some r := by
  have hk : k < R.length := (List.getElem?_eq_some_iff.1 h).1
  have hl : ((R.take k).map f).length = k := by rw [List.length_map, List.length_take]; omega
  unfold scn
  rw [List.getElem?_append_right (by omega), hl, Nat.sub_self, List.getElem?_drop]
  exact h
theorem scn_set {f : Rs → Rs} {R : List Rs} {k : Nat} {r : Rs} (h : R[k]? = some r) : (scn f R k).set k (f r) = scn f R (k + 1) := by
  obtain ⟨hk, hr⟩ := List.getElem?_eq_some_iff.1 h
  have hl : ((R.take k).map f).length = k := by rw [List.length_map, List.length_take]; omega
  have e1 : R.drop k = r :: R.drop (k + 1) := by rw [List.drop_eq_getElem_cons hk, hr]
  have e2 : R.take (k + 1) = R.take k ++ [r] := by rw [List.take_add_one, h]; rfl
  unfold scn
  rw [e1, e2, List.map_append, List.set_append_right _ _ (by omega), hl, Nat.sub_self]
  simp
theorem scn_all (f : Rs → Rs) (R : List Rs) : scn f R R.length = R.map f := by unfold scn; simp
theorem scn_wf {f : Rs → Rs} (hf : ∀ r, (f r).p = r.p) {N : Nat} {R : List Rs} (h : WF N R) (k : Nat) : WF N (scn f R k) := by
  have hp : (scn f R k).map Rs.p = R.map Rs.p := by
    unfold scn
    rw [List.map_append, List.map_map, show (Rs.p ∘ f) = Rs.p from funext hf, ← List.map_append, List.take_append_drop]
  refine ⟨by rw [hp]; exact h.nd, fun r hr => ?_⟩
  have : r.p ∈ R.map Rs.p := by rw [← hp]; exact List.mem_map_of_mem hr
  obtain ⟨r', h1, h2⟩ := List.mem_map.1 this
  rw [← h2]; exact h.lt r' h1
/-- a rise that was noted, as it is checked -/
def u1 (D : PD) (r : Rs) : Rs := if c1 D r.p r.cnt = true then ⟨r.p, r.old, D.hcnt r.p, true⟩ else r
theorem u1_p (D : PD) (r : Rs) : (u1 D r).p = r.p := by unfold u1; split <;> rfl
theorem c1_lt {D : PD} {p : Nat} {n : Int} (h : c1 D p n = true) : n < D.hcnt p := by
  unfold c1 a1 at h
  simp at h
  exact h.1.2
theorem ph1_scan (D : PD) {N : Nat} {R : List Rs} (hR : WF N R) (Qo : Option (Nat → Bool)) : ∀ k, k ≤ R.length → (ph1 D (R, Qo) k).1 = scn (u1 D) R k
  | 0, _ => by show R = _; unfold scn; simp
  | k + 1, hk => by
    have ih := ph1_scan D hR Qo k (by omega)
    obtain ⟨r, hr⟩ : ∃ r, R[k]? = some r := ⟨_, List.getElem?_eq_getElem (by omega)⟩
    have hg := scn_get (f := u1 D) hr
    have e : ph1 D (R, Qo) (k + 1) = chk D (ph1 D (R, Qo) k) r.p r.cnt := by
      show (match (ph1 D (R, Qo) k).1[k]? with | some r => chk D (ph1 D (R, Qo) k) r.p r.cnt | none => ph1 D (R, Qo) k) = _
      rw [ih, hg]
    rw [e, chk1, ih, ← scn_set hr]
    have hix := ix_at (scn_wf (u1_p D) hR k) hg
    by_cases hc : c1 D r.p r.cnt = true
    · rw [if_pos hc]
      unfold rz
      show (if ix (scn (u1 D) R k) r.p = 0 then _ else match (scn (u1 D) R k)[ix (scn (u1 D) R k) r.p - 1]? with | some o => (scn (u1 D) R k).set (ix (scn (u1 D) R k) r.p - 1) (up o (D.hcnt r.p)) | none => _) = _
      rw [hix, if_neg (by omega), Nat.add_sub_cancel, hg]
      show (scn (u1 D) R k).set k (up r (D.hcnt r.p)) = _
      have : up r (D.hcnt r.p) = u1 D r := by unfold up u1; rw [if_pos (c1_lt hc), if_pos hc]
      rw [this]
    · rw [if_neg hc]
      have : u1 D r = r := by unfold u1; rw [if_neg hc]
      rw [this, list_set_same hg]
def uf (D : PD) (R : List Rs) (r : Rs) : Rs := if fired D R r.p = true then up r (D.hcnt r.p) else r
theorem uf_p (D : PD) (R : List Rs) (r : Rs) : (uf D R r).p = r.p := by unfold uf; split <;> simp [up_p]
theorem EK_scan (D : PD) (R : List Rs) : ∀ k, k ≤ R.length → EK D R k = scn (uf D R) R k
  | 0, _ => by show R = _; unfold scn; simp
  | k + 1, hk => by
    have ih := EK_scan D R k (by omega)
    obtain ⟨r, hr⟩ : ∃ r, R[k]? = some r := ⟨_, List.getElem?_eq_getElem (by omega)⟩
    have hg := scn_get (f := uf D R) hr
    have e : EK D R (k + 1) = if fired D R r.p = true then (EK D R k).set k (up r (D.hcnt r.p)) else EK D R k := by
      show (match (EK D R k)[k]? with | some r => if fired D R r.p = true then (EK D R k).set k (up r (D.hcnt r.p)) else EK D R k | none => EK D R k) = _
      rw [ih, hg]
    rw [e, ih, ← scn_set hr]
    by_cases hc : fired D R r.p = true
    · rw [if_pos hc]
      have : uf D R r = up r (D.hcnt r.p) := by unfold uf; rw [if_pos hc]
      rw [this]
    · rw [if_neg hc]
      have : uf D R r = r := by unfold uf; rw [if_neg hc]
      rw [this, list_set_same hg]
/-! the entries -/
def nw (D : PD) (q : Nat) : Rs := ⟨q, (D.lkp q).1, D.hcnt q, true⟩
def gh (D : PD) (h : Nat → Bool) (r : Rs) : Rs := if h r.p = true then up (u1 D r) (D.hcnt r.p) else u1 D r
theorem gh_p (D : PD) (h : Nat → Bool) (r : Rs) : (gh D h r).p = r.p := by unfold gh; split <;> simp [up_p, u1_p]
theorem gh_congr {D : PD} {h h' : Nat → Bool} {r : Rs} (e : h r.p = h' r.p) : gh D h r = gh D h' r := by unfold gh; rw [e]
theorem gh_t {D : PD} {h : Nat → Bool} {r : Rs} (e : h r.p = true) : gh D h r = up (u1 D r) (D.hcnt r.p) := by unfold gh; rw [if_pos e]
theorem gh_f {D : PD} {h : Nat → Bool} {r : Rs} (e : ¬ h r.p = true) : gh D h r = u1 D r := by unfold gh; rw [if_neg e]
def FF (D : PD) (R : List Rs) (h : Nat → Bool) (tl : List Rs) : List Rs := R.map (gh D h) ++ tl
theorem up_up (o : Rs) (c : Int) : up (up o c) c = up o c := by
  unfold up
  by_cases h1 : o.cnt < c
  · simp [h1]
  · by_cases h2 : c = o.cnt
    · simp [h1, h2]
    · simp [h1, h2]
theorem up_nw (D : PD) (q : Nat) : up (nw D q) (D.hcnt q) = nw D q := by unfold up nw; simp
theorem rzF (D : PD) {N : Nat} {R : List Rs} (hR : WF N R) (h : Nat → Bool) {tl : List Rs} (ht : ∀ o ∈ tl, o = nw D o.p) (q : Nat) : rz (FF D R h tl) (nw D q) = FF D R (fun p => decide (p = q) || h p) (if ix R q = 0 ∧ ix tl q = 0 then tl ++ [nw D q] else tl) := by
  have hix : ix (FF D R h tl) q = if ix R q ≠ 0 then ix R q else if ix tl q = 0 then 0 else R.length + ix tl q := by
    unfold FF
    rw [ix_append, ix_map (gh_p D h), List.length_map]
  have hoth : ix R q = 0 → R.map (gh D h) = R.map (gh D fun p => decide (p = q) || h p) := fun h0 => List.map_congr_left fun r hr => by
    refine gh_congr ?_
    have := ix_none R q h0 r hr
    simp [this]
  unfold rz
  show (if ix (FF D R h tl) q = 0 then FF D R h tl ++ [nw D q] else match (FF D R h tl)[ix (FF D R h tl) q - 1]? with | some o => (FF D R h tl).set (ix (FF D R h tl) q - 1) (up o (D.hcnt q)) | none => FF D R h tl) = _
  rw [hix]
  by_cases h0 : ix R q = 0
  · rw [if_neg (show ¬ ix R q ≠ 0 from fun e => e h0)]
    by_cases h1 : ix tl q = 0
    · rw [if_pos h1, if_pos rfl, if_pos ⟨h0, h1⟩]
      unfold FF
      rw [← hoth h0, List.append_assoc]
    · rw [if_neg h1, if_neg (by omega), if_neg fun e => h1 e.2]
      obtain ⟨o, ho, hop⟩ := ix_some tl q h1
      have hg : (FF D R h tl)[R.length + ix tl q - 1]? = some o := by
        unfold FF
        rw [List.getElem?_append_right (by rw [List.length_map]; omega), List.length_map, show R.length + ix tl q - 1 - R.length = ix tl q - 1 by omega]
        exact ho
      rw [hg]
      have ho' := ht o (List.mem_of_getElem? ho)
      rw [hop] at ho'
      have hu : up o (D.hcnt q) = o := by rw [ho']; exact up_nw D q
      show (FF D R h tl).set _ (up o (D.hcnt q)) = _
      rw [hu, list_set_same hg]
      unfold FF
      rw [hoth h0]
  · rw [if_pos h0, if_neg h0, if_neg fun e => h0 e.1]
    obtain ⟨r, hr, hrp⟩ := ix_some R q h0
    have hlt : ix R q - 1 < R.length := (List.getElem?_eq_some_iff.1 hr).1
    have hg : (FF D R h tl)[ix R q - 1]? = some (gh D h r) := by
      unfold FF
      rw [List.getElem?_append_left (by rw [List.length_map]; omega), List.getElem?_map, hr]; rfl
    rw [hg]
    show (FF D R h tl).set (ix R q - 1) (up (gh D h r) (D.hcnt q)) = _
    unfold FF
    rw [List.set_append_left _ _ (by rw [List.length_map]; omega)]
    congr 1
    apply List.ext_getElem?
    intro j
    by_cases e : j = ix R q - 1
    · subst e
      rw [List.getElem?_set_self (by rw [List.length_map]; omega), List.getElem?_map, hr]
      show some _ = some _
      congr 1
      have e2 : gh D (fun p => decide (p = q) || h p) r = up (u1 D r) (D.hcnt r.p) := gh_t (by simp [hrp])
      rw [e2]
      by_cases hh : h r.p = true
      · rw [gh_t hh, ← hrp, up_up]
      · rw [gh_f hh, ← hrp]
    · rw [List.getElem?_set_ne (fun e' => e e'.symm), List.getElem?_map, List.getElem?_map]
      cases hj : R[j]? with
      | none => rfl
      | some r' =>
        show some _ = some _
        congr 1
        have hne : r'.p ≠ q := fun e' => by
          have := ix_at hR hj
          rw [e'] at this
          omega
        refine gh_congr ?_
        simp [hne]
def tstep (D : PD) (R : List Rs) (tl : List Rs) (q : Nat) : List Rs := if ix R q = 0 ∧ ix tl q = 0 ∧ c1 D q (D.lkp q).1 = true then tl ++ [nw D q] else tl
theorem tstep_good {D : PD} {R tl : List Rs} (ht : ∀ o ∈ tl, o = nw D o.p) (q : Nat) : ∀ o ∈ tstep D R tl q, o = nw D o.p := fun o ho => by
  unfold tstep at ho
  split at ho
  · rcases List.mem_append.1 ho with h | h
    · exact ht o h
    · rw [List.mem_singleton.1 h]; rfl
  · exact ht o ho
theorem chks1 (D : PD) {N : Nat} {R : List Rs} (hR : WF N R) : ∀ (L : List Nat) (h : Nat → Bool) (tl : List Rs) (Qo : Option (Nat → Bool)), (∀ o ∈ tl, o = nw D o.p) → (chks D (FF D R h tl, Qo) L).1 = FF D R (fun p => (decide (p ∈ L) && c1 D p (D.lkp p).1) || h p) (L.foldl (tstep D R) tl)
  | [], h, tl, Qo, ht => by
    show FF D R h tl = _
    congr 1
  | q :: L, h, tl, Qo, ht => by
    show (chks D (chk D (FF D R h tl, Qo) q (D.lkp q).1) L).1 = FF D R _ (L.foldl (tstep D R) (tstep D R tl q))
    by_cases hc : c1 D q (D.lkp q).1 = true
    · have e : chk D (FF D R h tl, Qo) q (D.lkp q).1 = (FF D R (fun p => decide (p = q) || h p) (tstep D R tl q), (chk D (FF D R h tl, Qo) q (D.lkp q).1).2) := by
        refine Prod.ext ?_ rfl
        rw [chk1, if_pos hc]
        show rz (FF D R h tl) (nw D q) = _
        rw [rzF D hR h ht q]
        congr 1
        unfold tstep
        by_cases h1 : ix R q = 0 ∧ ix tl q = 0
        · rw [if_pos h1, if_pos ⟨h1.1, h1.2, hc⟩]
        · rw [if_neg h1, if_neg fun e => h1 ⟨e.1, e.2.1⟩]
      rw [e, chks1 D hR L _ _ _ (tstep_good ht q)]
      congr 1
      funext p
      by_cases hp : p = q
      · subst hp; simp [hc]
      · simp [hp]
    · have e : chk D (FF D R h tl, Qo) q (D.lkp q).1 = (FF D R h (tstep D R tl q), (chk D (FF D R h tl, Qo) q (D.lkp q).1).2) := by
        refine Prod.ext ?_ rfl
        rw [chk1, if_neg hc]
        show FF D R h tl = FF D R h (tstep D R tl q)
        unfold tstep
        rw [if_neg fun e => hc e.2.2]
      rw [e, chks1 D hR L _ _ _ (tstep_good ht q)]
      congr 1
      funext p
      by_cases hp : p = q
      · subst hp; simp [hc]
      · simp [hp]
end Go.Proofs.Ybulkexuo
