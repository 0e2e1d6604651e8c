import Derived.Test.YbulkexuoP16
namespace Go.Proofs.Ybulkexuo
open Go.RowKit
set_option linter.unusedSimpArgs false
set_option linter.unusedVariables false

theorem AK_fold (D : PD) (R : List Rs) (L : List Nat) : ∀ k, AK D R L k = (L.take k).foldl (addF D R) (EK D R R.length)
  | 0 => rfl
  | k + 1 => by
    have ih := AK_fold D R L k
    show (match L[k]? with | some q => addF D R (AK D R L k) q | none => AK D R L k) = _
    rw [List.take_add_one, List.foldl_append, ← ih]
    cases L[k]? <;> rfl
theorem addG (D : PD) (R tl : List Rs) (q : Nat) (hq : (D.lkp q).2 = true) : addF D R (R.map (uf D R) ++ tl) q = R.map (uf D R) ++ tstep D R tl q := by
  have hix : ix (R.map (uf D R) ++ tl) q = if ix R q ≠ 0 then ix R q else if ix tl q = 0 then 0 else R.length + ix tl q := by
    rw [ix_append, ix_map (uf_p D R), List.length_map]
  unfold addF tstep
  rw [hix]
  by_cases h0 : ix R q = 0
  · rw [if_neg (show ¬ ix R q ≠ 0 from fun e => e h0)]
    have hf : fired D R q = c1 D q (D.lkp q).1 := by
      unfold fired alow low c1 a1
      rw [hq, h0]
      simp
    rw [hf]
    by_cases h1 : ix tl q = 0
    · rw [if_pos h1]
      by_cases hc : c1 D q (D.lkp q).1 = true
      · rw [if_pos ⟨rfl, hc⟩, if_pos ⟨h0, h1, hc⟩, List.append_assoc]; rfl
      · rw [if_neg fun e => hc e.2, if_neg fun e => hc e.2.2]
    · rw [if_neg h1, if_neg fun e => by have := e.1; omega, if_neg fun e => h1 e.2.1]
  · rw [if_pos h0, if_neg fun e => h0 e.1, if_neg fun e => h0 e.1]
theorem foldG (D : PD) (R : List Rs) : ∀ (L : List Nat) (tl : List Rs), (∀ q ∈ L, (D.lkp q).2 = true) → L.foldl (addF D R) (R.map (uf D R) ++ tl) = R.map (uf D R) ++ L.foldl (tstep D R) tl
  | [], tl, _ => rfl
  | q :: L, tl, h => by
    show L.foldl (addF D R) (addF D R (R.map (uf D R) ++ tl) q) = R.map (uf D R) ++ L.foldl (tstep D R) (tstep D R tl q)
    rw [addG D R tl q (h q (List.mem_cons_self ..)), foldG D R L _ fun p hp => h p (List.mem_cons_of_mem _ hp)]
theorem lkN2 (D : PD) (q : Nat) : ∀ l, (D.lkN q l).2 = true ↔ (q = D.asp ∧ 0 < D.asc) ∨ ∃ l', l' < l ∧ D.bit l' q = true
  | 0 => by
    show (if q = D.asp ∧ 0 < D.asc then (D.asc, true) else (0, false) : Int × Bool).2 = true ↔ _
    by_cases h : q = D.asp ∧ 0 < D.asc
    · rw [if_pos h]; exact ⟨fun _ => .inl h, fun _ => rfl⟩
    · rw [if_neg h]
      exact ⟨fun e => (by cases e), fun e => e.elim (fun e => absurd e h) fun ⟨l', h1, _⟩ => absurd h1 (Nat.not_lt_zero _)⟩
  | l + 1 => by
    have ih := lkN2 D q l
    show (if D.bit l q = true then (mx (D.lkN q l).1 (D.cnt l q), true) else D.lkN q l : Int × Bool).2 = true ↔ _
    by_cases h : D.bit l q = true
    · rw [if_pos h]
      exact ⟨fun _ => .inr ⟨l, Nat.lt_succ_self l, h⟩, fun _ => rfl⟩
    · rw [if_neg h, ih]
      refine or_congr Iff.rfl ⟨fun ⟨l', h1, h2⟩ => ⟨l', by omega, h2⟩, fun ⟨l', h1, h2⟩ => ⟨l', ?_, h2⟩⟩
      have : l' ≠ l := fun e => h (e ▸ h2)
      omega
theorem prs_mem (D : PD) (p : Nat) : ∀ l, p ∈ D.prs l ↔ p < D.N ∧ ∃ l', l' < l ∧ D.bit l' p = true
  | 0 => ⟨fun h => (by cases h), fun ⟨_, l', h, _⟩ => absurd h (Nat.not_lt_zero _)⟩
  | l + 1 => by
    have ih := prs_mem D p l
    have e : D.prs (l + 1) = D.prs l ++ (D.EL l).map (·.1) := by unfold PD.prs; rw [← List.map_append]; rfl
    rw [e, List.mem_append, ih]
    constructor
    · rintro (⟨h1, l', h2, h3⟩ | h)
      · exact ⟨h1, l', by omega, h3⟩
      · obtain ⟨⟨q, c⟩, h1, rfl⟩ := List.mem_map.1 h
        obtain ⟨h2, h3, _⟩ := EL_mem h1
        exact ⟨h2, l, Nat.lt_succ_self l, h3⟩
    · rintro ⟨h1, l', h2, h3⟩
      by_cases h4 : l' = l
      · subst h4
        exact .inr (List.mem_map.2 ⟨_, mem_EL h1 h3, rfl⟩)
      · exact .inl ⟨h1, l', by omega, h3⟩
theorem ord_mem (D : PD) (hasp : D.asp < D.N) (p : Nat) : p ∈ D.ord ↔ p < D.N ∧ (D.lkp p).2 = true := by
  unfold PD.ord PD.lkp
  rw [List.mem_append, prs_mem, lkN2]
  constructor
  · rintro (⟨h1, h2⟩ | h)
    · exact ⟨h1, .inr h2⟩
    · by_cases h0 : 0 < D.asc
      · rw [if_pos h0] at h
        have := List.mem_singleton.1 h
        subst this
        exact ⟨hasp, .inl ⟨rfl, h0⟩⟩
      · rw [if_neg h0] at h; cases h
  · rintro ⟨h1, h | h⟩
    · right
      rw [if_pos h.2, h.1]; exact List.mem_singleton.2 rfl
    · exact .inl ⟨h1, h⟩
theorem fin_chks (D : PD) (S : SQ) : fin D S = chks D (ph1 D S S.1.length) D.ord := by
  unfold fin PD.ord
  by_cases h : 0 < D.asc
  · rw [if_pos h, if_pos h, chks_app]; rfl
  · rw [if_neg h, if_neg h, List.append_nil]
theorem rc0_at {N : Nat} {R : List Rs} (hR : WF N R) {r : Rs} (hr : r ∈ R) : 0 < ix R r.p ∧ rc0 R r.p = r.cnt := by
  obtain ⟨k, hk, e⟩ := List.getElem_of_mem hr
  have h1 : R[k]? = some r := by rw [List.getElem?_eq_getElem hk, e]
  have h2 := ix_at hR h1
  refine ⟨by omega, ?_⟩
  unfold rc0
  rw [h2, Nat.add_sub_cancel, h1]; rfl
theorem gh_uf (D : PD) {R : List Rs} (hR : WF D.N R) (hasp : D.asp < D.N) {r : Rs} (hr : r ∈ R) : gh D (fun p => (decide (p ∈ D.ord) && c1 D p (D.lkp p).1) || false) r = uf D R r := by
  obtain ⟨h1, h2⟩ := rc0_at hR hr
  have hN := hR.lt r hr
  have hm : decide (r.p ∈ D.ord) = (D.lkp r.p).2 := by
    cases h : (D.lkp r.p).2
    · exact decide_eq_false fun e => by have := ((ord_mem D hasp _).1 e).2; rw [h] at this; cases this
    · exact decide_eq_true ((ord_mem D hasp _).2 ⟨hN, h⟩)
  have hf : fired D R r.p = ((!decide (D.off r.p D.gAt) && (decide (r.cnt < D.hcnt r.p) || ((D.lkp r.p).2 && decide ((D.lkp r.p).1 < D.hcnt r.p)))) && decide (D.hpos r.p ≤ D.cval (D.hto r.p))) := by
    unfold fired alow low
    rw [h2, decide_eq_true h1, Bool.true_and]
  have hu : c1 D r.p r.cnt = (!decide (D.off r.p D.gAt) && decide (r.cnt < D.hcnt r.p) && decide (D.hpos r.p ≤ D.cval (D.hto r.p))) := rfl
  have hv : c1 D r.p (D.lkp r.p).1 = (!decide (D.off r.p D.gAt) && decide ((D.lkp r.p).1 < D.hcnt r.p) && decide (D.hpos r.p ≤ D.cval (D.hto r.p))) := rfl
  by_cases hc : c1 D r.p r.cnt = true
  · have hlt := c1_lt hc
    have e1 : u1 D r = ⟨r.p, r.old, D.hcnt r.p, true⟩ := by unfold u1; rw [if_pos hc]
    have e2 : up r (D.hcnt r.p) = ⟨r.p, r.old, D.hcnt r.p, true⟩ := by unfold up; rw [if_pos hlt]
    have e3 : up (u1 D r) (D.hcnt r.p) = ⟨r.p, r.old, D.hcnt r.p, true⟩ := by rw [e1]; unfold up; simp
    have hft : fired D R r.p = true := by
      rw [hf]
      rw [hu] at hc
      simp at hc ⊢
      exact ⟨⟨hc.1.1, .inl hc.1.2⟩, hc.2⟩
    have e4 : uf D R r = ⟨r.p, r.old, D.hcnt r.p, true⟩ := by unfold uf; rw [if_pos hft, e2]
    rw [e4]
    unfold gh
    split
    · exact e3
    · exact e1
  · have e1 : u1 D r = r := by unfold u1; rw [if_neg hc]
    have hh : ((decide (r.p ∈ D.ord) && c1 D r.p (D.lkp r.p).1) || false) = fired D R r.p := by
      rw [hm, hf, hv, Bool.or_false]
      rw [hu] at hc
      generalize decide (D.off r.p D.gAt) = b1 at *
      generalize decide (r.cnt < D.hcnt r.p) = b2 at *
      generalize decide (D.hpos r.p ≤ D.cval (D.hto r.p)) = b3 at *
      generalize (D.lkp r.p).2 = b4 at *
      generalize decide ((D.lkp r.p).1 < D.hcnt r.p) = b5 at *
      cases b1 <;> cases b2 <;> cases b3 <;> cases b4 <;> cases b5 <;> simp_all
    by_cases h5 : fired D R r.p = true
    · rw [gh_t (by rw [← h5]; exact hh), e1]
      unfold uf
      rw [if_pos h5]
    · rw [gh_f (fun e => h5 (hh.symm.trans e)), e1]
      unfold uf
      rw [if_neg h5]
/-- the rises are those that the law expects -/
theorem fin_rises (D : PD) {R : List Rs} (hR : WF D.N R) (hasp : D.asp < D.N) : (fin D (R, none)).1 = AK D R D.ord D.ord.length := by
  have e1 : ph1 D (R, none) R.length = (FF D R (fun _ => false) [], (ph1 D (R, none) R.length).2) := by
    refine Prod.ext ?_ rfl
    rw [ph1_scan D hR none R.length (Nat.le_refl _), scn_all]
    show _ = R.map (gh D fun _ => false) ++ []
    rw [List.append_nil]
    exact List.map_congr_left fun r _ => (gh_f (by simp)).symm
  have e2 : (fin D (R, none)).1 = FF D R (fun p => (decide (p ∈ D.ord) && c1 D p (D.lkp p).1) || false) (D.ord.foldl (tstep D R) []) := by
    rw [fin_chks]
    show (chks D (ph1 D (R, none) R.length) D.ord).1 = _
    rw [e1]
    exact chks1 D hR D.ord _ _ _ fun o ho => by cases ho
  rw [e2, AK_fold, List.take_length, EK_scan D R R.length (Nat.le_refl _), scn_all]
  have := foldG D R D.ord [] fun q hq => ((ord_mem D hasp q).1 hq).2
  rw [List.append_nil] at this
  rw [this]
  unfold FF
  rw [List.map_congr_left fun r hr => gh_uf D hR hasp hr]
/-! what was asked -/
def relQ (Qo : Option (Nat → Bool)) (qs : List Nat) : Prop := (qs = [] → Qo = none) ∧ (qs ≠ [] → ∃ Q, Qo = some Q ∧ ∀ x, Q x = true ↔ x ∈ qs)
theorem relQ.ask {Qo : Option (Nat → Bool)} {qs : List Nat} (h : relQ Qo qs) (t : Nat) : relQ (some (askQ Qo t)) (t :: qs) := by
  refine ⟨fun e => (by cases e), fun _ => ⟨_, rfl, fun x => ?_⟩⟩
  unfold askQ
  by_cases e : x = t
  · simp [e]
  · by_cases hq : qs = []
    · rw [h.1 hq, hq]; simp [e]
    · obtain ⟨Q, h1, h2⟩ := h.2 hq
      rw [h1]
      simp [e, h2 x]
theorem chk_Q (D : PD) (S : SQ) (p : Nat) (n : Int) {qs : List Nat} (h : relQ S.2 qs) : ∃ qs', relQ (chk D S p n).2 qs' ∧ ∀ x, x ∈ qs' ↔ x ∈ qs ∨ (a1 D p n = true ∧ D.hto p = x) := by
  rw [chk2]
  by_cases hc : a1 D p n = true
  · rw [if_pos hc]
    refine ⟨_, h.ask (D.hto p), fun x => ?_⟩
    rw [List.mem_cons]
    exact ⟨fun e => e.elim (fun e => .inr ⟨hc, e.symm⟩) .inl, fun e => e.elim .inr fun e => .inl e.2.symm⟩
  · rw [if_neg hc]
    exact ⟨qs, h, fun x => ⟨.inl, fun e => e.elim id fun e => absurd e.1 hc⟩⟩
theorem ph1_Q (D : PD) {N : Nat} {R : List Rs} (hR : WF N R) : ∀ k, k ≤ R.length → ∃ qs, relQ (ph1 D (R, none) k).2 qs ∧ ∀ x, x ∈ qs ↔ ∃ r ∈ R.take k, a1 D r.p r.cnt = true ∧ D.hto r.p = x
  | 0, _ => ⟨[], ⟨fun _ => rfl, fun h => absurd rfl h⟩, fun x => by simp⟩
  | k + 1, hk => by
    obtain ⟨qs, h1, h2⟩ := ph1_Q D hR k (by omega)
    obtain ⟨r, hr⟩ : ∃ r, R[k]? = some r := ⟨_, List.getElem?_eq_getElem (by omega)⟩
    have hg := scn_get (f := u1 D) hr
    have e : ph1 D (R, none) (k + 1) = chk D (ph1 D (R, none) k) r.p r.cnt := by
      show (match (ph1 D (R, none) k).1[k]? with | some r => chk D (ph1 D (R, none) k) r.p r.cnt | none => ph1 D (R, none) k) = _
      rw [ph1_scan D hR none k (by omega), hg]
    rw [e]
    obtain ⟨qs', h3, h4⟩ := chk_Q D (ph1 D (R, none) k) r.p r.cnt h1
    refine ⟨qs', h3, fun x => ?_⟩
    rw [h4, h2, List.take_add_one, hr]
    constructor
    · rintro (⟨r', k1, k2⟩ | k)
      · exact ⟨r', List.mem_append_left _ k1, k2⟩
      · exact ⟨r, List.mem_append_right _ (List.mem_singleton.2 rfl), k⟩
    · rintro ⟨r', k1, k2⟩
      rcases List.mem_append.1 k1 with k1 | k1
      · exact .inl ⟨r', k1, k2⟩
      · have : r' = r := List.mem_singleton.1 k1
        subst this
        exact .inr k2
theorem chks_Q (D : PD) : ∀ (L : List Nat) (S : SQ) (qs : List Nat), relQ S.2 qs → ∃ qs', relQ (chks D S L).2 qs' ∧ ∀ x, x ∈ qs' ↔ x ∈ qs ∨ ∃ p ∈ L, a1 D p (D.lkp p).1 = true ∧ D.hto p = x
  | [], S, qs, h => ⟨qs, h, fun x => by simp⟩
  | q :: L, S, qs, h => by
    obtain ⟨qs1, h1, h2⟩ := chk_Q D S q (D.lkp q).1 h
    obtain ⟨qs2, h3, h4⟩ := chks_Q D L (chk D S q (D.lkp q).1) qs1 h1
    refine ⟨qs2, h3, fun x => ?_⟩
    rw [h4, h2, or_assoc]
    refine or_congr Iff.rfl ⟨?_, ?_⟩
    · rintro (k | ⟨p, k1, k2⟩)
      · exact ⟨q, List.mem_cons_self .., k⟩
      · exact ⟨p, List.mem_cons_of_mem _ k1, k2⟩
    · rintro ⟨p, k1, k2⟩
      rcases List.mem_cons.1 k1 with rfl | k1
      · exact .inl k2
      · exact .inr ⟨p, k1, k2⟩
theorem qk_iff (D : PD) (R : List Rs) (x : Nat) : ∀ n, qk D R n x = true ↔ ∃ p, p < n ∧ alow D R p = true ∧ D.hto p = x
  | 0 => ⟨fun h => (by cases h), fun ⟨p, h, _⟩ => absurd h (Nat.not_lt_zero _)⟩
  | n + 1 => by
    have ih := qk_iff D R x n
    show (if alow D R n = true ∧ D.hto n = x then true else qk D R n x) = true ↔ _
    by_cases h : alow D R n = true ∧ D.hto n = x
    · rw [if_pos h]
      exact ⟨fun _ => ⟨n, Nat.lt_succ_self n, h⟩, fun _ => rfl⟩
    · rw [if_neg h, ih]
      refine ⟨fun ⟨p, h1, h2⟩ => ⟨p, by omega, h2⟩, fun ⟨p, h1, h2⟩ => ⟨p, ?_, h2⟩⟩
      have : p ≠ n := fun e => h (e ▸ h2)
      omega
theorem anyk_iff (D : PD) (R : List Rs) : ∀ n, anyk D R n = true ↔ ∃ p, p < n ∧ alow D R p = true
  | 0 => ⟨fun h => (by cases h), fun ⟨p, h, _⟩ => absurd h (Nat.not_lt_zero _)⟩
  | n + 1 => by
    have ih := anyk_iff D R n
    show (if alow D R n = true then true else anyk D R n) = true ↔ _
    by_cases h : alow D R n = true
    · rw [if_pos h]
      exact ⟨fun _ => ⟨n, Nat.lt_succ_self n, h⟩, fun _ => rfl⟩
    · rw [if_neg h, ih]
      refine ⟨fun ⟨p, h1, h2⟩ => ⟨p, by omega, h2⟩, fun ⟨p, h1, h2⟩ => ⟨p, ?_, h2⟩⟩
      have : p ≠ n := fun e => h (e ▸ h2)
      omega
theorem alow_iff (D : PD) {R : List Rs} (hR : WF D.N R) (hasp : D.asp < D.N) {p : Nat} (hp : p < D.N) : alow D R p = true ↔ (∃ r ∈ R, r.p = p ∧ a1 D p r.cnt = true) ∨ (p ∈ D.ord ∧ a1 D p (D.lkp p).1 = true) := by
  rw [ord_mem D hasp]
  unfold alow low a1
  simp only [Bool.and_eq_true, Bool.or_eq_true, decide_eq_true_eq, Bool.not_eq_true', decide_eq_false_iff_not]
  constructor
  · rintro ⟨h1, ⟨h2, h3⟩ | ⟨h2, h3⟩⟩
    · obtain ⟨r, k1, k2⟩ := ix_some R p (by omega)
      have hm := List.mem_of_getElem? k1
      have := (rc0_at hR hm).2
      rw [k2] at this
      rw [this] at h3
      exact .inl ⟨r, hm, k2, h1, h3⟩
    · exact .inr ⟨⟨hp, h2⟩, h1, h3⟩
  · rintro (⟨r, hm, rfl, h1, h3⟩ | ⟨⟨_, h2⟩, h1, h3⟩)
    · obtain ⟨k1, k2⟩ := rc0_at hR hm
      exact ⟨h1, .inl ⟨k1, by rw [k2]; exact h3⟩⟩
    · exact ⟨h1, .inr ⟨h2, h3⟩⟩
theorem fin_asked (D : PD) {R : List Rs} (hR : WF D.N R) (hasp : D.asp < D.N) : ∃ qs, relQ (fin D (R, none)).2 qs ∧ ∀ x, x ∈ qs ↔ ∃ p, p < D.N ∧ alow D R p = true ∧ D.hto p = x := by
  obtain ⟨qs1, h1, h2⟩ := ph1_Q D hR R.length (Nat.le_refl _)
  obtain ⟨qs2, h3, h4⟩ := chks_Q D D.ord (ph1 D (R, none) R.length) qs1 h1
  refine ⟨qs2, ?_, fun x => ?_⟩
  · rw [fin_chks]; exact h3
  · rw [h4, h2, List.take_length]
    constructor
    · rintro (⟨r, hm, k1, k2⟩ | ⟨p, hm, k1, k2⟩)
      · exact ⟨r.p, hR.lt r hm, (alow_iff D hR hasp (hR.lt r hm)).2 (.inl ⟨r, hm, rfl, k1⟩), k2⟩
      · have hp := ((ord_mem D hasp p).1 hm).1
        exact ⟨p, hp, (alow_iff D hR hasp hp).2 (.inr ⟨hm, k1⟩), k2⟩
    · rintro ⟨p, hp, k1, k2⟩
      rcases (alow_iff D hR hasp hp).1 k1 with ⟨r, hm, rfl, k3⟩ | ⟨hm, k3⟩
      · exact .inl ⟨r, hm, k3, k2⟩
      · exact .inr ⟨p, hm, k3, k2⟩
theorem fin_no (D : PD) {R : List Rs} (hR : WF D.N R) (hasp : D.asp < D.N) (h : anyk D R D.N = false) : (fin D (R, none)).2 = none := by
  obtain ⟨qs, h1, h2⟩ := fin_asked D hR hasp
  refine h1.1 (List.eq_nil_iff_forall_not_mem.2 fun x hx => ?_)
  obtain ⟨p, k1, k2, _⟩ := (h2 x).1 hx
  have := (anyk_iff D R D.N).2 ⟨p, k1, k2⟩
  rw [h] at this
  cases this
theorem fin_yes (D : PD) {R : List Rs} (hR : WF D.N R) (hasp : D.asp < D.N) (h : anyk D R D.N = true) : ∃ Qf, (fin D (R, none)).2 = some Qf ∧ ∀ q, q < D.N → Qf q = qk D R D.N q := by
  obtain ⟨qs, h1, h2⟩ := fin_asked D hR hasp
  obtain ⟨p, k1, k2⟩ := (anyk_iff D R D.N).1 h
  obtain ⟨Qf, h3, h4⟩ := h1.2 (fun e => by have := (h2 (D.hto p)).2 ⟨p, k1, k2, rfl⟩; rw [e] at this; cases this)
  refine ⟨Qf, h3, fun q _ => ?_⟩
  rw [Bool.eq_iff_iff, h4, h2, qk_iff]
end Go.Proofs.Ybulkexuo
