import Derived.Test.YbulkexuoK
namespace Go.Proofs.Ybulkexuo
open Go.RowKit

/-! ### a region that draws, and whose last operation waits for all the others: that one is peeled off -/
/-- no operation has a guard; each waits only for earlier ones -/
def plainB : Nat → List Oper → Bool
  | _, [] => true
  | n, o :: l => o.guard.isNone && o.after.all (fun e => decide (e.on < n)) && plainB (n + 1) l
/-- j waits for i -/
def waitB (o : Oper) (i : Nat) : Bool := o.after.any fun e => Region.binds .any e && e.on == i
/-- o waits for each of the operations ahead of it, itself or through a later one -/
def lastB (l : List Oper) (o : Oper) : Bool := (List.range l.length).all fun i => waitB o i || (List.range l.length).any fun j => decide (i < j) && (match l[j]? with | some oj => waitB oj i | none => false)

def peelQ (P : Program) (o : Oper) (Q : Exit → Act → World → Prop) : Exit → Act → World → Prop
  | .normal, a, w => o.wp P a w (fun a' w' => Q .normal a' w') Q
  | e, a, w => Q e a w

theorem plainB_get : ∀ (l : List Oper) (n j : Nat) (o : Oper), plainB n l = true → l[j]? = some o → o.guard = none ∧ ∀ e ∈ o.after, e.on < n + j
  | [], _, _, _, _, h => by simp at h
  | a :: l, n, 0, o, hb, h => by
    simp at h
    subst h
    simp only [plainB, Bool.and_eq_true, Option.isNone_iff_eq_none] at hb
    exact ⟨hb.1.1, fun e he => by simpa using Array.all_eq_true_iff_forall_mem.1 hb.1.2 e he⟩
  | a :: l, n, j + 1, o, hb, h => by
    simp only [plainB, Bool.and_eq_true] at hb
    have := plainB_get l (n + 1) j o hb.2 (by simpa using h)
    exact ⟨this.1, fun e he => by have := this.2 e he; omega⟩

section
variable {P : Program} {l : List Oper} {o : Oper} {Q : Exit → Act → World → Prop}

theorem waitB_spec {oj : Oper} {i : Nat} (h : waitB oj i = true) : ∃ e ∈ oj.after, Region.binds .any e = true ∧ e.on = i := by
  obtain ⟨e, he, hb⟩ := Array.any_eq_true'.1 h
  simp only [Bool.and_eq_true, beq_iff_eq] at hb
  exact ⟨e, he, hb.1, hb.2⟩
/-- what has come up has all that it waits for -/
def Closed (l : List Oper) (L : Array Bool) : Prop := ∀ j oj, l[j]? = some oj → L.getD j false = true → ∀ e ∈ oj.after, Region.binds .any e = true → L.getD e.on false = true
theorem last_waits (hl : lastB l o = true) {L : Array Bool} (hc : Closed l L) (ho : ∀ e ∈ o.after, Region.binds .any e = true → L.getD e.on false = true) : ∀ (d i : Nat), l.length - i = d → i < l.length → L.getD i false = true := by
  intro d
  induction d using Nat.strongRecOn with
  | _ d ih =>
    intro i hd hi
    have h1 := List.all_eq_true.1 hl i (List.mem_range.2 hi)
    simp only [Bool.or_eq_true] at h1
    rcases h1 with h1 | h1
    · obtain ⟨e, he, hb, hon⟩ := waitB_spec h1
      rw [← hon]
      exact ho e he hb
    · obtain ⟨j, hj, h2⟩ := List.any_eq_true.1 h1
      simp only [Bool.and_eq_true, decide_eq_true_eq] at h2
      have hjl := List.mem_range.1 hj
      rw [List.getElem?_eq_getElem hjl] at h2
      obtain ⟨e, he, hb, hon⟩ := waitB_spec h2.2
      have h3 := ih (l.length - j) (by omega) j rfl hjl
      rw [← hon]
      exact hc j _ (List.getElem?_eq_getElem hjl) h3 e he hb

theorem push_getD_lt {L : Array Bool} {j : Nat} (h : j < L.size) (b d : Bool) : (L.push b).getD j d = L.getD j d := by
  simp [Array.getElem?_push, Nat.ne_of_lt h]

theorem ready_lt {L : Array Bool} (hs : L.size = l.length) (hp : plainB 0 l = true) {j : Nat} (hj : j < l.length) : j ∈ Region.ready .any (l ++ [o]).toArray (L.push false) ↔ j ∈ Region.ready .any l.toArray L := by
  rw [mem_ready, mem_ready]
  have e1 : (l ++ [o]).toArray[j]? = l.toArray[j]? := by simp [List.getElem?_append_left hj]
  rw [e1, push_getD_lt (by omega)]
  constructor
  · rintro ⟨h1, oj, h2, h3⟩
    refine ⟨h1, oj, h2, fun e he hb => ?_⟩
    have h4 := (plainB_get l 0 j oj hp (by simpa using h2)).2 e he
    have := h3 e he hb
    rwa [push_getD_lt (by omega)] at this
  · rintro ⟨h1, oj, h2, h3⟩
    refine ⟨h1, oj, h2, fun e he hb => ?_⟩
    have h4 := (plainB_get l 0 j oj hp (by simpa using h2)).2 e he
    rw [push_getD_lt (by omega)]
    exact h3 e he hb

theorem ready_nil_all {L : Array Bool} (hs : L.size = l.length) (hp : plainB 0 l = true) (h : Region.ready .any l.toArray L = []) : ∀ j, j < l.length → L.getD j true = true := by
  intro j
  induction j using Nat.strongRecOn with
  | _ j ih =>
    intro hj
    cases hl : L.getD j true with
    | true => rfl
    | false =>
      have : j ∈ Region.ready .any l.toArray L := by
        rw [mem_ready]
        refine ⟨hl, l[j], by simp [hj], fun e he _ => ?_⟩
        have h4 := (plainB_get l 0 j l[j] hp (List.getElem?_eq_getElem hj)).2 e he
        have h5 := ih e.on (by omega) (by omega)
        have : e.on < L.size := by omega
        simp [this] at h5 ⊢
        exact h5
      rw [h] at this
      cases this

theorem peel_any (hp : plainB 0 l = true) (hg : o.guard = none) (ho : ∀ e ∈ o.after, e.on < l.length) (hl : lastB l o = true) :
    ∀ (f : Nat) (L : Array Bool) (a : Act) (w : World), L.size = l.length → Closed l L → wpAny P .any l.toArray (peelQ P o Q) f L a w → wpAny P .any (l ++ [o]).toArray Q (f + 1) (L.push false) a w := by
  intro f
  have hlast : ∀ (L : Array Bool) (f : Nat) (a : Act) (w : World), L.size = l.length → (∀ j, j < l.length → L.getD j true = true) → peelQ P o Q .normal a w → wpAny P .any (l ++ [o]).toArray Q (f + 1) (L.push false) a w := by
    intro L f a w hs hall hq
    have hr : ∀ j, j ∈ Region.ready .any (l ++ [o]).toArray (L.push false) ↔ j = l.length := by
      intro j
      by_cases hj : j < l.length
      · rw [mem_ready, push_getD_lt (by omega), hall j hj]
        constructor
        · rintro ⟨h, _⟩; cases h
        · intro h; omega
      · by_cases hj2 : j = l.length
        · refine ⟨fun _ => hj2, fun _ => mem_ready.2 ⟨?_, o, by simp [hj2], fun e he _ => ?_⟩⟩
          · subst hj2; simp [← hs]
          · have h4 := ho e he
            rw [push_getD_lt (by omega)]
            have h5 := hall e.on h4
            have : e.on < L.size := by omega
            simp [this] at h5 ⊢
            exact h5
        · refine ⟨fun h => ?_, fun h => absurd h hj2⟩
          obtain ⟨_, o', h2, _⟩ := mem_ready.1 h
          have : j < (l ++ [o]).length := by
            rcases Nat.lt_or_ge j (l ++ [o]).length with h | h
            · exact h
            · simp [List.getElem?_eq_none h] at h2
          simp at this
          omega
    refine ⟨fun h => ?_, fun i hi => ?_⟩
    · have := (hr l.length).2 rfl
      rw [h] at this
      cases this
    · have hi' := (hr i).1 hi
      subst hi'
      have hend : ∀ a' w', Q .normal a' w' → wpAny P .any (l ++ [o]).toArray Q f ((L.push false).setIfInBounds l.length true) a' w' := by
        intro a' w' hQ
        have hre : Region.ready .any (l ++ [o]).toArray ((L.push false).setIfInBounds l.length true) = [] := by
          rw [List.eq_nil_iff_forall_not_mem]
          intro j hj
          obtain ⟨h1, o', h2, _⟩ := mem_ready.1 hj
          have hjl : j < l.length + 1 := by
            rcases Nat.lt_or_ge j (l ++ [o]).length with h | h
            · simpa using h
            · simp [List.getElem?_eq_none h] at h2
          by_cases e : j = l.length
          · subst e
            simp [← hs] at h1
          · have hj2 : j < l.length := by omega
            have h3 := hall j hj2
            have h4 : ((L.push false).setIfInBounds l.length true).getD j true = L.getD j true := by
              simp [Array.getElem?_setIfInBounds_ne (Ne.symm e), Array.getElem?_push, show ¬ j = L.size by omega]
            rw [h4, h3] at h1
            cases h1
        cases f with
        | zero => exact ⟨hre, hQ⟩
        | succ f => exact ⟨fun _ => hQ, fun i hi => by rw [hre] at hi; cases hi⟩
      unfold wpOp
      have hol : (l ++ [o]).toArray[l.length]? = some o := by simp
      rw [hol]
      simp only [Region.wanted, hg, if_true]
      left
      have hq' : o.wp P a w (fun a' w' => Q .normal a' w') Q := hq
      exact Oper.wp_mono hend hq'
  induction f with
  | zero =>
    intro L a w hs _ h
    exact hlast L 0 a w hs (ready_nil_all hs hp h.1) h.2
  | succ f ih =>
    intro L a w hs hcl h
    by_cases hr : Region.ready .any l.toArray L = []
    · exact hlast L (f + 1) a w hs (ready_nil_all hs hp hr) (h.1 hr)
    · have hno : ∀ j, j ∈ Region.ready .any (l ++ [o]).toArray (L.push false) → j ∈ Region.ready .any l.toArray L ∧ j < l.length := by
        intro j hj
        obtain ⟨k, hk⟩ := List.exists_mem_of_ne_nil _ hr
        obtain ⟨k1, ok, k2, _⟩ := mem_ready.1 hk
        have hkl : k < l.length := by
          rcases Nat.lt_or_ge k l.length with h | h
          · exact h
          · simp [List.getElem?_eq_none h] at k2
        obtain ⟨h1, o', h2, h3⟩ := mem_ready.1 hj
        have hjl : j < l.length + 1 := by
          rcases Nat.lt_or_ge j (l ++ [o]).length with h | h
          · simpa using h
          · simp [List.getElem?_eq_none h] at h2
        by_cases e : j = l.length
        · subst e
          simp at h2
          subst h2
          have this := last_waits hl hcl (fun e he hb => by
            have h5 := h3 e he hb
            rwa [push_getD_lt (by have := ho e he; omega)] at h5) _ k rfl hkl
          have hks : k < L.size := by omega
          simp [hks] at this k1
          rw [this] at k1
          cases k1
        · have hj2 : j < l.length := by omega
          exact ⟨(ready_lt hs hp hj2).1 hj, hj2⟩
      refine ⟨fun h0 => ?_, fun i hi => ?_⟩
      · obtain ⟨k, hk⟩ := List.exists_mem_of_ne_nil _ hr
        obtain ⟨k1, ok, k2, _⟩ := mem_ready.1 hk
        have hkl : k < l.length := by
          rcases Nat.lt_or_ge k l.length with h | h
          · exact h
          · simp [List.getElem?_eq_none h] at k2
        have := (ready_lt (o := o) hs hp hkl).2 hk
        rw [h0] at this
        cases this
      · obtain ⟨hi1, hi2⟩ := hno i hi
        have h1 := h.2 i hi1
        unfold wpOp at h1 ⊢
        have e1 : (l ++ [o]).toArray[i]? = some l[i] := by simp [List.getElem?_append_left hi2, hi2]
        have e2 : l.toArray[i]? = some l[i] := by simp [hi2]
        have hgi := (plainB_get l 0 i l[i] hp (List.getElem?_eq_getElem hi2)).1
        rw [e1]
        rw [e2] at h1
        simp only [Region.wanted, hgi, if_true] at h1 ⊢
        have hset : (L.push false).setIfInBounds i true = (L.setIfInBounds i true).push false := by
          apply Array.ext_getElem?
          intro k
          simp only [Array.getElem?_setIfInBounds, Array.getElem?_push, Array.size_setIfInBounds, Array.size_push]
          by_cases ek : i = k
          · subst ek
            simp [show i < L.size by omega, show ¬ i = L.size by omega, show i < L.size + 1 by omega]
          · simp [ek]
        have hnext : ∀ a' w', wpAny P .any l.toArray (peelQ P o Q) f (L.setIfInBounds i true) a' w' → wpAny P .any (l ++ [o]).toArray Q (f + 1) ((L.push false).setIfInBounds i true) a' w' := fun a' w' hh => by
          rw [hset]
          refine ih _ a' w' (by simpa using hs) (fun j oj hj hlj e he hb => ?_) hh
          obtain ⟨_, oi, hoi, hall⟩ := mem_ready.1 hi1
          have hset1 : ∀ q, (L.setIfInBounds i true).getD q false = if q = i then true else L.getD q false := fun q => by
            by_cases eq : q = i
            · subst eq; simp [show q < L.size by omega]
            · simp [Array.getElem?_setIfInBounds_ne (Ne.symm eq), eq]
          rw [hset1] at hlj ⊢
          by_cases eq : e.on = i
          · rw [if_pos eq]
          · rw [if_neg eq]
            by_cases ej : j = i
            · subst ej
              have : oj = oi := Option.some.inj (hj.symm.trans (by simpa using hoi))
              subst this
              exact hall e he hb
            · rw [if_neg ej] at hlj
              exact hcl j oj hj hlj e he hb
        rcases h1 with h1 | h1
        · left
          exact Oper.wp_mono hnext (show l[i].wp P a w _ Q from h1)
        · right
          exact ⟨h1.1, h1.2⟩

theorem getD_replicate_false' (m j : Nat) : (Array.replicate m false).getD j false = false := by
  rcases Nat.lt_or_ge j m with h | h
  · simp [h]
  · simp [h]
/-- the whole: S is held up to the last operation -/
theorem wp_region_peel {id : Nat} {a : Act} {w : World} (S : World → Prop) (hm : P.follows .mixedOrders = true) (hp : plainB 0 (l ++ [o]) = true) (hl : lastB l o = true) (h : wpAnyH P .any l.toArray (peelQ P o Q) S l.length (Array.replicate l.length false) a w.drew) :
    (Code.region id (l ++ [o]).toArray true).wp P Q a w := by
  refine wp_region_any hm ?_
  have ho := plainB_get (l ++ [o]) 0 l.length o hp (by simp)
  have hp' : plainB 0 l = true := by
    clear h hl ho
    generalize 0 = n at hp
    induction l generalizing n with
    | nil => rfl
    | cons a l ih =>
      simp only [List.cons_append, plainB, Bool.and_eq_true] at hp ⊢
      exact ⟨hp.1, ih _ hp.2⟩
  have := peel_any (Q := Q) hp' ho.1 (fun e he => by have := ho.2 e he; omega) hl l.length (Array.replicate l.length false) a w.drew (by simp) (fun j oj _ hj => by rw [getD_replicate_false'] at hj; cases hj) (wpAny_of_held _ _ _ _ h)
  have e : (Array.replicate l.length false).push false = Array.replicate (l ++ [o]).toArray.size false := by
    simp [Array.replicate_succ]
  rw [e] at this
  simpa using this
theorem wp_region_peel' {L : List Oper} {id : Nat} {a : Act} {w : World} (S : World → Prop) (hL : L ≠ []) (hm : P.follows .mixedOrders = true) (hp : plainB 0 L = true) (hl : lastB L.dropLast (L.getLast hL) = true)
    (h : wpAnyH P .any L.dropLast.toArray (peelQ P (L.getLast hL) Q) S L.dropLast.length (Array.replicate L.dropLast.length false) a w.drew) : (Code.region id L.toArray true).wp P Q a w := by
  have := wp_region_peel (id := id) S hm (by rw [List.dropLast_concat_getLast hL]; exact hp) hl h
  rwa [List.dropLast_concat_getLast hL] at this

/-- the last one: a store -/
theorem peel_st {P : Program} {o : Oper} {Q : Exit → Act → World → Prop} {a : Act} {w w' : World} {n : Nat} {L : List (Nat × Value)} (hK : Kn n L a) (hd : o.dst = none) (h : ∀ ρ, Rho L ρ → (execOp ρ o).run P w = .ok .skip w') (hk : Q .normal a w') : peelQ P o Q .normal a w := by
  show o.wp P a w (fun a' w' => Q .normal a' w') Q
  unfold Oper.wp
  rw [h _ hK.rho]
  have : Q .normal (a.put o.dst undef) w' := by rw [hd]; exact hk
  exact this
end
end Go.Proofs.Ybulkexuo
