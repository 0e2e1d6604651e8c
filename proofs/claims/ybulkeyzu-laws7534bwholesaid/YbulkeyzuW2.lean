import Derived.Test.YbulkeyzuW1
namespace Go.Proofs.Ybulkeyzu
open Go.RowKit

/-- the contract of Implements at s -/
def Impl (g : G) (CB : Nat → Nat) (w : World) (t s : Nat) : Prop :=
  Calls Yba.prog 7 #[.pointer (some ⟨CB s, 0, none⟩), .pointer (some ⟨CB t, 0, none⟩)] w fun e w' => e = .returned (.bool (reach g s t)) ∧ w' = w

set_option maxHeartbeats 1000000 in
theorem impl_step (g : G) (n : Nat) (CB : Nat → Nat) (w : World) (hg : IsG g n) (hL : Laid w g n CB) (s t : Nat) (hs : s < n) (ht : t < n) (hm : ∀ i, i < n → g.m i ≤ 10) (ih : ∀ u, u < s → Impl g CB w t u) : Impl g CB w t s := by
  unfold Impl
  have IH : Hid (∀ u, u < s → Impl g CB w t u) := ih
  clear ih
  generalize hr : reach g s t = r
  have HR : Hid (reach g s t = r) := hr
  clear hr
  go_enter Yba.func7, Yba.ntmps7
  go_wp2_with fail
  go_loopg [5] (s + 1) (fun k p wr => wr = w ∧ ((p = .pointer none ∧ r = false) ∨ ∃ u, u < k ∧ u ≤ s ∧ p = .pointer (some ⟨CB u, 0, none⟩) ∧ reach g u t = r))
  case atStart => exact ⟨rfl, Or.inr ⟨s, by omega, by omega, rfl, HR.out⟩⟩
  case round =>
    obtain ⟨rfl, hrel⟩ := hrel
    rcases hrel with ⟨rfl, rfl⟩ | ⟨u, huk, hun, rfl, hru⟩
    · go_wp2_with fail
      go_ret
      exact ⟨rfl, rfl⟩
    · have hun' : u < n := by omega
      have heq := eql_cls hL hun' ht
      obtain ⟨F, A, c, hrow, _, _, f4, f5, _, fm⟩ := hL.2 u hun'
      have c4 := hrow.cell (i := 4) (by omega)
      have c5 := hrow.cell (i := 5) (by omega)
      rw [f4] at c4
      rw [f5] at c5
      have Hq := reach_eq hg hun' t
      rw [hru] at Hq
      have Hq' : Hid (r = ((u == t) || ((match g.sup u with | some p => reach g p t | none => false) || anyTo (fun j => reach g (g.f u j) t) (g.m u)))) := Hq
      have hmf := (hg u hun').2.2
      clear hru Hq
      by_cases hut : u = t
      · have hb : (u == t) = true := by simp [hut]
        have Hr : Hid (r = true) := by have := Hq'.out; rw [hb, Bool.true_or] at this; exact this
        clear hut
        go_wp2_with fail
        go_ret
        exact ⟨by rw [Hr.out]; rfl, rfl⟩
      · have hb : (u == t) = false := by simp [hut]
        have Hr := Hq'.out
        rw [hb, Bool.false_or] at Hr
        have HRR : Hid (r = ((match g.sup u with | some p => reach g p t | none => false) || anyTo (fun j => reach g (g.f u j) t) (g.m u))) := Hr
        clear hut Hr Hq'
        have hm10 := hm u hun'
        clear hm
        go_wp2_with fail
        go_loop [23] (fun i => ∃ j : Nat, j ≤ g.m u ∧ i = .int .i64 j ∧ ∀ q, q < j → reach g (g.f u q) t = false) (fun i => g.m u - (intOf i).toNat)
        case atStart => exact ⟨0, by omega, rfl, fun q hq => by omega⟩
        case round =>
          obtain ⟨j, hj, rfl, hno⟩ := hrel
          have HN : Hid (∀ q, q < j → reach g (g.f u q) t = false) := hno
          clear hno
          by_cases hjm : j < g.m u
          · obtain ⟨ib, rfl, hcell⟩ := fm (by omega)
            have cj := hcell j hjm
            simp only [ptr] at cj
            have hfu := hmf j hjm
            by_cases hre : reach g (g.f u j) t = true
            · have Hr : Hid (r = true) := by rw [HRR.out, anyTo_true (p := fun j => reach g (g.f u j) t) hjm hre, Bool.or_true]; rfl
              go_wp2_with (go_at_call 7; refine (IH.out (g.f u j) (by omega)).mono ?_; rintro e w' ⟨rfl, rfl⟩; rw [hre])
              go_ret
              exact ⟨by rw [Hr.out]; rfl, rfl⟩
            · have hre' : reach g (g.f u j) t = false := by simpa using hre
              clear hre
              have HN2 : Hid (∀ q, q < j + 1 → reach g (g.f u q) t = false) := fun q hq => by
                by_cases e : q = j
                · subst e; exact hre'
                · exact HN.out q (by omega)
              go_wp2_with (go_at_call 7; refine (IH.out (g.f u j) (by omega)).mono ?_; rintro e w' ⟨rfl, rfl⟩; rw [hre'])
              go_round
              case rel => exact ⟨j + 1, by omega, by go_num, HN2.out⟩
              case measure => simp [intOf]; omega
          · have Hr := HRR.out
            rw [anyTo_false (p := fun j => reach g (g.f u j) t) (fun q hq => HN.out q (by omega)), Bool.or_false] at Hr
            cases hsu : g.sup u with
            | none =>
              rw [hsu] at Hr c4
              have Hr' : Hid (r = false) := Hr
              clear Hr
              simp only [ptr] at c4
              go_wp2_with fail
              go_roundg 0
              case measure => omega
              case rel => exact ⟨rfl, Or.inl ⟨rfl, Hr'.out⟩⟩
            | some q =>
              rw [hsu] at Hr c4
              have Hr' : Hid (reach g q t = r) := Hr.symm
              have hqu := (hg u hun').1 q hsu
              clear Hr hsu
              simp only [ptr] at c4
              go_wp2_with fail
              go_roundg (q + 1)
              case measure => omega
              case rel => exact ⟨rfl, Or.inr ⟨q, by omega, by omega, rfl, Hr'.out⟩⟩

theorem impl_any (g : G) (n : Nat) (CB : Nat → Nat) (w : World) (hg : IsG g n) (hL : Laid w g n CB) (t : Nat) (ht : t < n) (hm : ∀ i, i < n → g.m i ≤ 10) : ∀ k s, s < k → s < n → Impl g CB w t s
  | 0, _, h, _ => by omega
  | k + 1, s, h, hn => impl_step g n CB w hg hL s t hn ht hm fun u hu => impl_any g n CB w hg hL t ht hm k u (by omega) (by omega)

theorem Cls.drewN {w : World} {g : G} {CB : Nat → Nat} {i : Nat} (h : Cls w g CB i) (q : Nat) : Cls (w.drewN q) g CB i := h
theorem Laid.drewN {w : World} {g : G} {n : Nat} {CB : Nat → Nat} (h : Laid w g n CB) (q : Nat) : Laid (w.drewN q) g n CB := h

set_option maxHeartbeats 6000000 in
theorem assign_any (g : G) (n : Nat) (CB : Nat → Nat) (hg : IsG g n) (hm : ∀ i, i < n → g.m i ≤ 10) : ∀ (k a b : Nat) (w : World), Laid w g n CB → a < k → a < n → b < n →
    Calls Yba.prog 4 #[.pointer (some ⟨CB a, 0, none⟩), .pointer (some ⟨CB b, 0, none⟩)] w fun e w' => e = .returned (.bool (asg g k a b)) ∧ ∃ nq, w' = w.drewN nq
  | 0, _, _, _, _, h, _, _ => by omega
  | k + 1, a, b, w, hL, hak, ha, hb => by
    have IH : Hid (∀ (a b : Nat) (w : World), Laid w g n CB → a < k → a < n → b < n →
      Calls Yba.prog 4 #[.pointer (some ⟨CB a, 0, none⟩), .pointer (some ⟨CB b, 0, none⟩)] w fun e w' => e = .returned (.bool (asg g k a b)) ∧ ∃ nq, w' = w.drewN nq) := assign_any g n CB hg hm k
    have heq := eql_cls hL ha hb
    have HI : Hid (Impl g CB w b a) := impl_any g n CB w hg hL b hb hm (a + 1) a (by omega) ha
    have HS : Hid (Calls Yba.prog 8 #[.pointer (some ⟨CB a, 0, none⟩), .pointer (some ⟨CB b, 0, none⟩)] w fun e w' => e = .returned (.bool (sreach g a b)) ∧ w' = w) := subclass_any g n CB w hg hL a b ha hb
    obtain ⟨F, A, c, hrow, f0, f3, f4, f5, f8, _⟩ := hL.2 a ha
    obtain ⟨F', A', c', hrow', f0', f3', f4', f5', f8', _⟩ := hL.2 b hb
    have c0 := hrow.cell (i := 0) (by omega)
    have c3 := hrow.cell (i := 3) (by omega)
    have c8 := hrow.cell (i := 8) (by omega)
    have d0 := hrow'.cell (i := 0) (by omega)
    have d3 := hrow'.cell (i := 3) (by omega)
    have d8 := hrow'.cell (i := 8) (by omega)
    rw [f0] at c0
    rw [f8] at c8
    rw [f0'] at d0
    rw [f3'] at d3
    rw [f8'] at d8
    clear c3
    have X0 : Hid (∀ w', w'.cell? ⟨CB a, 0, none⟩ = some (.string (nm (g.arr a))) → Calls Yba.prog 5 #[.pointer (some ⟨CB a, 0, none⟩)] w' fun e w'' => e = .returned (.bool (g.arr a)) ∧ w'' = w') := fun w' h => isArray_any _ _ w' h
    have X1 : Hid (∀ w', w'.cell? ⟨CB b, 0, none⟩ = some (.string (nm (g.arr b))) → Calls Yba.prog 5 #[.pointer (some ⟨CB b, 0, none⟩)] w' fun e w'' => e = .returned (.bool (g.arr b)) ∧ w'' = w') := fun w' h => isArray_any _ _ w' h
    have X2 : Hid (∀ w', w'.cell? ⟨CB b, 3, none⟩ = some (.int .u16 (fl (g.isf b))) → Calls Yba.prog 6 #[.pointer (some ⟨CB b, 0, none⟩)] w' fun e w'' => e = .returned (.bool (g.isf b)) ∧ w'' = w') := fun w' h => isInterface_any _ _ w' h
    have C0 : Hid (w.cell? ⟨CB a, 0, none⟩ = some (.string (nm (g.arr a)))) := c0
    have D0 : Hid (w.cell? ⟨CB b, 0, none⟩ = some (.string (nm (g.arr b)))) := d0
    have D3 : Hid (w.cell? ⟨CB b, 3, none⟩ = some (.int .u16 (fl (g.isf b)))) := d3
    clear c0 d0 d3
    cases hb1 : g.arr b with
    | false =>
      have HA : Hid (asg g (k + 1) a b = if g.isf b then reach g a b else sreach g a b) := by unfold Hid; rw [asg, hb1]; rfl
      rw [hb1] at X1 D0
      generalize asg g (k + 1) a b = r at HA ⊢
      cases hi : g.isf b with
      | true =>
        rw [hi] at X2 D3 HA
        have HA' : Hid (r = reach g a b) := HA.out
        clear HA
        go_enter Yba.func4, Yba.ntmps4
        go_wp2_with (first | (go_at_call 5; refine (X1.out _ D0.out).mono ?_; rintro e w' ⟨rfl, rfl⟩) | (go_at_call 6; refine (X2.out _ D3.out).mono ?_; rintro e w' ⟨rfl, rfl⟩) | (go_at_call 7; refine (HI.out).mono ?_; rintro e w' ⟨rfl, rfl⟩))
        go_ret
        exact ⟨by rw [HA'.out]; rfl, 0, rfl⟩
      | false =>
        rw [hi] at X2 D3 HA
        have HA' : Hid (r = sreach g a b) := HA.out
        clear HA
        go_enter Yba.func4, Yba.ntmps4
        go_wp2_with (first | (go_at_call 5; refine (X1.out _ D0.out).mono ?_; rintro e w' ⟨rfl, rfl⟩) | (go_at_call 6; refine (X2.out _ D3.out).mono ?_; rintro e w' ⟨rfl, rfl⟩) | (go_at_call 8; refine (HS.out).mono ?_; rintro e w' ⟨rfl, rfl⟩))
        go_ret
        exact ⟨by rw [HA'.out]; rfl, 0, rfl⟩
    | true =>
      cases ha1 : g.arr a with
      | false =>
        have HA : Hid (asg g (k + 1) a b = if g.isf b then reach g a b else sreach g a b) := by unfold Hid; rw [asg, hb1, ha1]; rfl
        rw [hb1] at X1 D0
        rw [ha1] at X0 C0
        generalize asg g (k + 1) a b = r at HA ⊢
        cases hi : g.isf b with
        | true =>
          rw [hi] at X2 D3 HA
          have HA' : Hid (r = reach g a b) := HA.out
          clear HA
          go_enter Yba.func4, Yba.ntmps4
          go_wp2_with (first | (go_at_call 5; refine (X1.out _ D0.out).mono ?_; rintro e w' ⟨rfl, rfl⟩) | (go_at_call 5; refine (X0.out _ C0.out).mono ?_; rintro e w' ⟨rfl, rfl⟩) | (go_at_call 6; refine (X2.out _ D3.out).mono ?_; rintro e w' ⟨rfl, rfl⟩) | (go_at_call 7; refine (HI.out).mono ?_; rintro e w' ⟨rfl, rfl⟩))
          go_ret
          exact ⟨by rw [HA'.out]; rfl, 0, rfl⟩
        | false =>
          rw [hi] at X2 D3 HA
          have HA' : Hid (r = sreach g a b) := HA.out
          clear HA
          go_enter Yba.func4, Yba.ntmps4
          go_wp2_with (first | (go_at_call 5; refine (X1.out _ D0.out).mono ?_; rintro e w' ⟨rfl, rfl⟩) | (go_at_call 5; refine (X0.out _ C0.out).mono ?_; rintro e w' ⟨rfl, rfl⟩) | (go_at_call 6; refine (X2.out _ D3.out).mono ?_; rintro e w' ⟨rfl, rfl⟩) | (go_at_call 8; refine (HS.out).mono ?_; rintro e w' ⟨rfl, rfl⟩))
          go_ret
          exact ⟨by rw [HA'.out]; rfl, 0, rfl⟩
      | true =>
        have HA : asg g (k + 1) a b = match g.cmp a, g.cmp b with | some a', some b' => asg g k a' b' | _, _ => a == b := by rw [asg, hb1, ha1]; rfl
        rw [hb1] at X1 D0
        rw [ha1] at X0 C0
        generalize asg g (k + 1) a b = r at HA ⊢
        cases hca : g.cmp a with
        | none =>
          rw [hca] at HA c8
          have HA' : Hid (r = (a == b)) := HA
          clear HA
          simp only [ptr] at c8 d8
          go_enter Yba.func4, Yba.ntmps4
          go_wp2_with (first | (go_at_call 5; refine (X1.out _ D0.out).mono ?_; rintro e w' ⟨rfl, rfl⟩) | (go_at_call 5; refine (X0.out _ C0.out).mono ?_; rintro e w' ⟨rfl, rfl⟩))
          go_ret
          exact ⟨by rw [HA'.out]; rfl, 0, rfl⟩
        | some a' =>
          cases hcb : g.cmp b with
          | none =>
            rw [hca, hcb] at HA
            rw [hca] at c8
            rw [hcb] at d8
            have HA' : Hid (r = (a == b)) := HA
            clear HA
            simp only [ptr] at c8 d8
            go_enter Yba.func4, Yba.ntmps4
            go_wp2_with (first | (go_at_call 5; refine (X1.out _ D0.out).mono ?_; rintro e w' ⟨rfl, rfl⟩) | (go_at_call 5; refine (X0.out _ C0.out).mono ?_; rintro e w' ⟨rfl, rfl⟩))
            go_ret
            exact ⟨by rw [HA'.out]; rfl, 0, rfl⟩
          | some b' =>
            rw [hca, hcb] at HA
            rw [hca] at c8
            rw [hcb] at d8
            have HA' : Hid (r = asg g k a' b') := HA
            clear HA
            have ha' := (hg a ha).2.1 a' hca
            have hb' := (hg b hb).2.1 b' hcb
            simp only [ptr] at c8 d8
            have HE : Hid (∀ x, Calls Yba.prog 4 #[.pointer (some ⟨CB a', 0, none⟩), .pointer (some ⟨CB b', 0, none⟩)] (w.drewN x) fun e w' => e = .returned (.bool (asg g k a' b')) ∧ ∃ y, w' = w.drewN y) := fun x => Calls.quiet_of (IH.out a' b' _ (hL.drewN x) (by omega) (by omega) (by omega))
            go_enter Yba.func4, Yba.ntmps4
            go_wp2_with (first | (go_at_call 5; refine (X1.out _ D0.out).mono ?_; rintro e w' ⟨rfl, rfl⟩) | (go_at_call 5; refine (X0.out _ C0.out).mono ?_; rintro e w' ⟨rfl, rfl⟩))
            go_quiet ((go_at_call 4; exact HE.out _))
            go_wp2_with fail
            go_ret
            exact ⟨by rw [HA'.out]; rfl, nq, rfl⟩
end Go.Proofs.Ybulkeyzu
