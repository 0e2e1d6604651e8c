import Derived.Test.YbulkexuoN3
namespace Go.Proofs.Ybulkexuo
open Go.RowKit

/-! ### in a region that draws: what is carried out alone -/
section
variable {P : Program} {ops : Array Oper} {S : World → Prop} {Q : Exit → Act → World → Prop} {a : Act} {w w' : World} {oi : Oper} {v : Value} {n : Nat} {L : List (Nat × Value)} {fuel : Nat} {listed : Array Bool}
theorem kd_call (hK : Kn n L a) {i : Nat} (d : Nat) (hr : Region.ready .any ops listed = [i]) (ho : ops[i]? = some oi) (hd : oi.dst = some d) (hn : d < n) (hg : oi.guard = none) {fn : Nat} {args : Array Value} {R : Ending → World → Prop} (h : ∀ ρ, Rho L ρ → (execOp ρ oi).run P w = .ok (.enter fn args) w) (hc : Calls P fn args w R)
    (hR : ∀ e w', R e w' → ∃ v, e = .returned v ∧ S w' ∧ ∀ a', Kn n ((d, v) :: L) a' → wpAnyH P .any ops Q S fuel (listed.setIfInBounds i true) a' w') : wpAnyH P .any ops Q S (fuel + 1) listed a w := by
  refine wpAnyH_ready hr (by simp) ?_
  refine AllReadyH.cons ho (fun K' hK' => ?_) AllReadyH.nil
  rw [if_pos (plainW hg)]
  unfold Oper.wp
  rw [h _ hK.rho]
  refine Calls.mono hc fun e w' hr' => ?_
  obtain ⟨v, rfl, hS, hk⟩ := hR e w' hr'
  have : K' (a.put oi.dst v) w' := hK'.out _ _ hS (fun _ => by rw [hd]; exact hk _ (hK.put hn v))
  exact this
theorem kd_val (hK : Kn n L a) {i : Nat} (d : Nat) (hr : Region.ready .any ops listed = [i]) (ho : ops[i]? = some oi) (hd : oi.dst = some d) (hn : d < n) (hg : oi.guard = none) (h : ∀ ρ, Rho L ρ → (execOp ρ oi).run P w = .ok (.value v) w') (hS : S w')
    (hk : ∀ a', Kn n ((d, v) :: L) a' → wpAnyH P .any ops Q S fuel (listed.setIfInBounds i true) a' w') : wpAnyH P .any ops Q S (fuel + 1) listed a w := by
  refine wpAnyH_ready hr (by simp) ?_
  refine AllReadyH.cons ho (fun K' hK' => ?_) AllReadyH.nil
  rw [if_pos (plainW hg)]
  unfold Oper.wp
  rw [h _ hK.rho]
  have : K' (a.put oi.dst v) w' := hK'.out _ _ hS (fun _ => by rw [hd]; exact hk _ (hK.put hn v))
  exact this
theorem kd_store (hK : Kn n L a) {i : Nat} (hr : Region.ready .any ops listed = [i]) (ho : ops[i]? = some oi) (hd : oi.dst = none) (hg : oi.guard = none) (h : ∀ ρ, Rho L ρ → (execOp ρ oi).run P w = .ok .skip w') (hS : S w')
    (hk : wpAnyH P .any ops Q S fuel (listed.setIfInBounds i true) a w') : wpAnyH P .any ops Q S (fuel + 1) listed a w := by
  refine wpAnyH_ready hr (by simp) ?_
  refine AllReadyH.cons ho (fun K' hK' => ?_) AllReadyH.nil
  rw [if_pos (plainW hg)]
  unfold Oper.wp
  rw [h _ hK.rho]
  have : K' (a.put oi.dst undef) w' := hK'.out _ _ hS (fun _ => by rw [hd]; exact hk)
  exact this
/-- two stores, in either order -/
theorem kd_store2 (hK : Kn n L a) {i j : Nat} {oj : Oper} {wi wj wf : World} (hr : Region.ready .any ops listed = [i, j]) (ho : ops[i]? = some oi) (hd : oi.dst = none) (hg : oi.guard = none) (ho' : ops[j]? = some oj) (hd' : oj.dst = none) (hg' : oj.guard = none)
    (hi : ∀ ρ, Rho L ρ → (execOp ρ oi).run P w = .ok .skip wi) (hSi : S wi) (hj : ∀ ρ, Rho L ρ → (execOp ρ oj).run P w = .ok .skip wj) (hSj : S wj)
    (hij : ∀ ρ, Rho L ρ → (execOp ρ oj).run P wi = .ok .skip wf) (hji : ∀ ρ, Rho L ρ → (execOp ρ oi).run P wj = .ok .skip wf) (hSf : S wf)
    (hri : Region.ready .any ops (listed.setIfInBounds i true) = [j]) (hrj : Region.ready .any ops (listed.setIfInBounds j true) = [i])
    (hki : wpAnyH P .any ops Q S fuel ((listed.setIfInBounds i true).setIfInBounds j true) a wf) (hkj : wpAnyH P .any ops Q S fuel ((listed.setIfInBounds j true).setIfInBounds i true) a wf) : wpAnyH P .any ops Q S (fuel + 1 + 1) listed a w := by
  refine wpAnyH_ready hr (by simp) ?_
  refine AllReadyH.cons ho (fun K' hK' => ?_) (AllReadyH.cons ho' (fun K' hK' => ?_) AllReadyH.nil)
  · rw [if_pos (plainW hg)]
    unfold Oper.wp
    rw [hi _ hK.rho]
    have : K' (a.put oi.dst undef) wi := hK'.out _ _ hSi (fun _ => by rw [hd]; exact kd_store hK hri ho' hd' hg' hij hSf hki)
    exact this
  · rw [if_pos (plainW hg')]
    unfold Oper.wp
    rw [hj _ hK.rho]
    have : K' (a.put oj.dst undef) wj := hK'.out _ _ hSj (fun _ => by rw [hd']; exact kd_store hK hrj ho hd hg hji hSf hkj)
    exact this
end

/-! ### the levels and their entries -/
section
variable (D : PD)
def PD.EL (l : Nat) : List (Nat × Int) := ((List.range D.N).filter (D.bit l)).map fun q => (q, D.cnt l q)
def PD.ent : Nat → List (Nat × Int)
  | 0 => []
  | l + 1 => PD.ent l ++ D.EL l
def PD.eo (l : Nat) : Nat := (D.ent l).length
end
section
variable {D : PD}
theorem EL_len (l : Nat) : (D.EL l).length ≤ D.N := by
  unfold PD.EL
  rw [List.length_map]
  exact Nat.le_trans (List.length_filter_le _ _) (by simp)
theorem eo_succ (l : Nat) : D.eo (l + 1) = D.eo l + (D.EL l).length := by
  unfold PD.eo
  show (D.ent l ++ D.EL l).length = _
  rw [List.length_append]
theorem eo_le {i k : Nat} (h : i ≤ k) : D.eo i ≤ D.eo k := by
  induction h with
  | refl => exact Nat.le_refl _
  | step _ ih => rw [eo_succ]; omega
theorem eo_bound (h : D.N ≤ 20) : ∀ l, D.eo l ≤ l * 20
  | 0 => Nat.le_refl _
  | l + 1 => by
    have := eo_bound h l
    have := EL_len (D := D) l
    rw [eo_succ]
    omega
theorem ent_at {l L : Nat} (hl : l < L) {k : Nat} (hk : k < (D.EL l).length) : (D.ent L)[D.eo l + k]? = (D.EL l)[k]? := by
  induction L with
  | zero => omega
  | succ L ih =>
    show (D.ent L ++ D.EL L)[_]? = _
    by_cases e : l = L
    · subst e
      rw [List.getElem?_append_right (by unfold PD.eo; omega)]
      congr 1
      unfold PD.eo
      omega
    · have h1 : D.eo l + k < (D.ent L).length := by
        have := eo_le (D := D) (show l + 1 ≤ L by omega)
        rw [eo_succ] at this
        unfold PD.eo at *
        omega
      rw [List.getElem?_append_left h1]
      exact ih (by omega)
/-- the processes of a level, in order -/
theorem EL_sorted (l : Nat) : ∀ i j : Nat, i < j → ∀ x y : Nat × Int, (D.EL l)[i]? = some x → (D.EL l)[j]? = some y → x.1 < y.1 := by
  have hp : ((List.range D.N).filter (D.bit l)).Pairwise (· < ·) := List.Pairwise.filter _ List.pairwise_lt_range
  intro i j hij x y hx hy
  unfold PD.EL at hx hy
  rw [List.getElem?_map] at hx hy
  obtain ⟨a, ha, rfl⟩ := Option.map_eq_some_iff.1 hx
  obtain ⟨b, hb, rfl⟩ := Option.map_eq_some_iff.1 hy
  obtain ⟨h1, rfl⟩ := List.getElem?_eq_some_iff.1 ha
  obtain ⟨h2, rfl⟩ := List.getElem?_eq_some_iff.1 hb
  exact (List.pairwise_iff_getElem.1 hp) i j h1 h2 hij
theorem EL_mem {l q : Nat} {c : Int} (h : (q, c) ∈ D.EL l) : q < D.N ∧ D.bit l q = true ∧ c = D.cnt l q := by
  unfold PD.EL at h
  obtain ⟨a, ha, he⟩ := List.mem_map.1 h
  cases he
  have := List.mem_filter.1 ha
  exact ⟨List.mem_range.1 this.1, this.2, rfl⟩
theorem mem_EL {l q : Nat} (hq : q < D.N) (hb : D.bit l q = true) : (q, D.cnt l q) ∈ D.EL l := List.mem_map.2 ⟨q, List.mem_filter.2 ⟨List.mem_range.2 hq, hb⟩, rfl⟩
/-- what 'find' finds in level l -/
theorem fnd_EL {l q : Nat} (hq : q < D.N) (P C : Nat → Int) (hP : ∀ k x, (D.EL l)[k]? = some x → P k = x.1 ∧ C k = x.2) :
    fnd P C q (D.EL l).length = if D.bit l q = true then (D.cnt l q, true) else (0, false) := by
  by_cases hb : D.bit l q = true
  · rw [if_pos hb]
    obtain ⟨i, hi, he⟩ := List.getElem_of_mem (mem_EL hq hb)
    have he' : (D.EL l)[i]? = some (q, D.cnt l q) := by rw [List.getElem?_eq_getElem hi, he]
    have h1 := hP i _ he'
    rw [fnd_hit hi h1.1 (fun j hj hh => by
      have hjl : j < (D.EL l).length := by omega
      have h2 := hP j _ (List.getElem?_eq_getElem hjl)
      have := EL_sorted l j i hj _ _ (List.getElem?_eq_getElem hjl) he'
      simp only at this
      omega), h1.2]
  · rw [if_neg hb]
    refine fnd_miss fun j hj hh => hb ?_
    have h2 := hP j _ (List.getElem?_eq_getElem hj)
    have hm : (D.EL l)[j] ∈ D.EL l := List.getElem_mem hj
    rcases h : (D.EL l)[j] with ⟨a, c⟩
    rw [h] at hm h2
    have h3 := EL_mem hm
    have : a = q := by simp only at h2; omega
    subst this
    exact h3.2.1
end

/-! ### the arena as the clocks read it -/
structure CK (D : PD) (w : World) (arB : Nat) : Prop where
  lt : arB < w.heap.size
  u0 : w.cell? ⟨arB, 0, none⟩ = some (.slice none 0 0)
  u1 : w.cell? ⟨arB, 1, none⟩ = some (.slice none 0 0)
  ent : ∃ a c, w.cell? ⟨arB, 3, none⟩ = some (.slice a (D.eo D.ll) c) ∧ D.eo D.ll ≤ c ∧ c ≤ 9223372036854775807 ∧ (a = none ∧ D.eo D.ll = 0 ∧ c = 0 ∨ ∃ b, a = some ⟨b, 0, none⟩) ∧ ∀ k e, (D.ent D.ll)[k]? = some e → ∃ b, a = some ⟨b, 0, none⟩ ∧ b < w.heap.size ∧ w.cell? ⟨b, k * 2, none⟩ = some (.int .i32 e.1) ∧ w.cell? ⟨b, k * 2 + 1, none⟩ = some (.int .i32 e.2)
  lev : ∃ a c, w.cell? ⟨arB, 4, none⟩ = some (.slice a D.ll c) ∧ D.ll ≤ c ∧ c ≤ 9223372036854775807 ∧ (a = none ∧ D.ll = 0 ∧ c = 0 ∨ ∃ b, a = some ⟨b, 0, none⟩) ∧ ∀ l, l < D.ll → ∃ b, a = some ⟨b, 0, none⟩ ∧ b < w.heap.size ∧ w.cell? ⟨b, l * 2, none⟩ = some (.int .i32 (D.eo l)) ∧ w.cell? ⟨b, l * 2 + 1, none⟩ = some (.int .i32 (D.eo (l + 1)))
  hand : ∃ b c, w.cell? ⟨arB, 6, none⟩ = some (.slice (some ⟨b, 0, none⟩) D.N c) ∧ b < w.heap.size ∧ HandAt D w b
  kt : w.cell? ⟨arB, 11, none⟩ = some (.bool false)
theorem CK.below {D : PD} {w w' : World} {arB : Nat} (h : CK D w arB) (hb : Below w.heap.size w w') : CK D w' arB := by
  have C : ∀ {b o : Nat}, b < w.heap.size → w'.cell? ⟨b, o, none⟩ = w.cell? ⟨b, o, none⟩ := fun {b o} hlt => World.cell?_of_block (a := ⟨b, o, none⟩) (hb.block b hlt)
  have L : ∀ {b : Nat}, b < w.heap.size → b < w'.heap.size := fun h => Nat.lt_of_lt_of_le h hb.size
  obtain ⟨a, c, e1, e2, e3, e4, e5⟩ := h.ent
  obtain ⟨a', c', f1, f2, f3, f4, f5⟩ := h.lev
  obtain ⟨b, c2, g1, g2, g3⟩ := h.hand
  refine ⟨L h.lt, (C h.lt).trans h.u0, (C h.lt).trans h.u1, ⟨a, c, (C h.lt).trans e1, e2, e3, e4, fun k e he => ?_⟩, ⟨a', c', (C h.lt).trans f1, f2, f3, f4, fun l hl => ?_⟩, ⟨b, c2, (C h.lt).trans g1, L g2, g3.below g2 hb⟩, (C h.lt).trans h.kt⟩
  · obtain ⟨b, h1, h2, h3, h4⟩ := e5 k e he
    exact ⟨b, h1, L h2, (C h2).trans h3, (C h2).trans h4⟩
  · obtain ⟨b, h1, h2, h3, h4⟩ := f5 l hl
    exact ⟨b, h1, L h2, (C h2).trans h3, (C h2).trans h4⟩

/-- a part s .. e of a slice -/
def StkR (a : Option Addr) (s e : Nat) (r : Ending) : Prop := ∃ a' c', r = .returned (.slice a' (e - s) c') ∧ (s < e → ∃ b, a = some ⟨b, 0, none⟩ ∧ a' = some ⟨b, s * 2, none⟩)
theorem stk31 (a : Option Addr) (n c s e : Nat) (w : World) (ha : a = none ∧ n = 0 ∧ c = 0 ∨ ∃ b, a = some ⟨b, 0, none⟩) (hs : s ≤ e) (he : e ≤ n) (hn : n ≤ c) (hc : c ≤ 9223372036854775807) (hlt : n ≤ 1000000) :
    Calls Yba.prog 31 #[.slice none 0 0, .slice a n c, .agg #[.int .i32 s, .int .i32 e]] w fun r w' => StkR a s e r ∧ Below w.heap.size w w' := by
  rcases ha with ⟨rfl, rfl, rfl⟩ | ⟨b, rfl⟩
  · obtain rfl : e = 0 := by omega
    obtain rfl : s = 0 := by omega
    go_enter Yba.func31, Yba.ntmps31
    go_wp2_with fail
    go_ret
    exact ⟨⟨_, _, rfl, fun h => by first | omega | exact ⟨_, rfl, rfl⟩⟩, (Below.refl _ _).alloc (Nat.le_refl _) _⟩
  · have h1 : ¬ (s : Int) < 0 := by omega
    have w1 : IntKind.i32.wrap (s : Int) = s := by rw [IntKind.wrap_i32]; omega
    have w2 : IntKind.i32.wrap (e : Int) = e := by rw [IntKind.wrap_i32]; omega
    go_enter Yba.func31, Yba.ntmps31
    go_wp2_with fail
    · go_ret
      exact ⟨⟨_, _, rfl, fun h => by first | omega | exact ⟨_, rfl, rfl⟩⟩, (Below.refl _ _).alloc (Nat.le_refl _) _⟩
    · go_ret
      exact ⟨⟨_, _, rfl, fun h => by first | omega | exact ⟨_, rfl, rfl⟩⟩, (Below.refl _ _).alloc (Nat.le_refl _) _⟩
theorem stk30 (a : Option Addr) (n c s e : Nat) (w : World) (ha : a = none ∧ n = 0 ∧ c = 0 ∨ ∃ b, a = some ⟨b, 0, none⟩) (hs : s ≤ e) (he : e ≤ n) (hn : n ≤ c) (hc : c ≤ 9223372036854775807) (hlt : n ≤ 1000000) :
    Calls Yba.prog 30 #[.slice none 0 0, .slice a n c, .agg #[.int .i32 s, .int .i32 e]] w fun r w' => StkR a s e r ∧ Below w.heap.size w w' := by
  rcases ha with ⟨rfl, rfl, rfl⟩ | ⟨b, rfl⟩
  · obtain rfl : e = 0 := by omega
    obtain rfl : s = 0 := by omega
    go_enter Yba.func30, Yba.ntmps30
    go_wp2_with fail
    go_ret
    exact ⟨⟨_, _, rfl, fun h => by first | omega | exact ⟨_, rfl, rfl⟩⟩, (Below.refl _ _).alloc (Nat.le_refl _) _⟩
  · have h1 : ¬ (s : Int) < 0 := by omega
    have w1 : IntKind.i32.wrap (s : Int) = s := by rw [IntKind.wrap_i32]; omega
    have w2 : IntKind.i32.wrap (e : Int) = e := by rw [IntKind.wrap_i32]; omega
    go_enter Yba.func30, Yba.ntmps30
    go_wp2_with fail
    · go_ret
      exact ⟨⟨_, _, rfl, fun h => by first | omega | exact ⟨_, rfl, rfl⟩⟩, (Below.refl _ _).alloc (Nat.le_refl _) _⟩
    · go_ret
      exact ⟨⟨_, _, rfl, fun h => by first | omega | exact ⟨_, rfl, rfl⟩⟩, (Below.refl _ _).alloc (Nat.le_refl _) _⟩
end Go.Proofs.Ybulkexuo
