import Derived.Test.YbulkeyzuProg
import Derived.Test.YbulkeyzuG
import Derived.WalkKit
import Derived.WalkSpells
import Derived.WalkLawsBesides
import Derived.Laws.Pointers
import Derived.LaidEqlPtr
import Derived.Deep.QuietTactic
import Derived.BigQuiet
import Derived.Deep.LoopGhost
namespace Go.Proofs.Ybulkeyzu
open Go.RowKit

theorem isArray_any (b : Nat) (arr : Bool) (w : World) (h : w.cell? ⟨b, 0, none⟩ = some (.string (nm arr))) :
    Calls Yba.prog 5 #[.pointer (some ⟨b, 0, none⟩)] w fun e w' => e = .returned (.bool arr) ∧ w' = w := by
  cases arr with
  | true =>
    simp only [nm, if_true] at h
    go_enter Yba.func5, Yba.ntmps5
    go_wp2_with fail
    go_ret
    exact ⟨rfl, rfl⟩
  | false =>
    simp only [nm] at h
    go_enter Yba.func5, Yba.ntmps5
    go_wp2_with fail
    go_ret
    exact ⟨rfl, rfl⟩

theorem isInterface_any (b : Nat) (isf : Bool) (w : World) (h : w.cell? ⟨b, 3, none⟩ = some (.int .u16 (fl isf))) :
    Calls Yba.prog 6 #[.pointer (some ⟨b, 0, none⟩)] w fun e w' => e = .returned (.bool isf) ∧ w' = w := by
  cases isf with
  | true =>
    simp only [fl, if_true] at h
    go_enter Yba.func6, Yba.ntmps6
    go_wp2_with fail
    go_ret
    exact ⟨rfl, rfl⟩
  | false =>
    simp only [fl] at h
    go_enter Yba.func6, Yba.ntmps6
    go_wp2_with fail
    go_ret
    exact ⟨rfl, rfl⟩

theorem info43 : ∃ j, Yba.prog.info? 43 = some j ∧ j.size ≠ 0 := by
  have h : (Yba.prog.info? 43).map (fun i => i.size) = some 20 := by kernel_rfl
  obtain ⟨j, hj, e⟩ := Option.map_eq_some_iff.1 h
  exact ⟨j, hj, by omega⟩

/-- two classes are one pointer just where they are one index -/
theorem eql_cls {w : World} {g : G} {n : Nat} {CB : Nat → Nat} (hL : Laid w g n CB) {i j : Nat} (hi : i < n) (hj : j < n) :
    (binOp .eql 31 (.pointer (some ⟨CB i, 0, none⟩)) (.pointer (some ⟨CB j, 0, none⟩))).run Yba.prog w = .ok (.bool (i == j)) w := by
  obtain ⟨jf, hjf, hsz⟩ := info43
  by_cases e : i = j
  · subst e
    rw [run_eql_ptr_same w _ Yba.underlying31 hjf]
    simp
  · obtain ⟨F, A, c, ⟨ca, ha, _, _⟩, _⟩ := hL.2 i hi
    obtain ⟨F', A', c', ⟨cb, hb, _, _⟩, _⟩ := hL.2 j hj
    have hne : (⟨CB i, 0, none⟩ : Addr) ≠ ⟨CB j, 0, none⟩ := fun h => e (hL.1 i j hi hj (by injection h))
    rw [run_eql_ptr_other w Yba.underlying31 hjf hsz hne ha hb]
    simp [e]

set_option maxHeartbeats 1000000 in
theorem subclass_any (g : G) (n : Nat) (CB : Nat → Nat) (w : World) (hg : IsG g n) (hL : Laid w g n CB) (s t : Nat) (hs : s < n) (ht : t < n) :
    Calls Yba.prog 8 #[.pointer (some ⟨CB s, 0, none⟩), .pointer (some ⟨CB t, 0, none⟩)] w fun e w' => e = .returned (.bool (sreach g s t)) ∧ w' = w := by
  generalize hr : sreach g s t = r
  have HR : Hid (sreach g s t = r) := hr
  clear hr
  go_enter Yba.func8, Yba.ntmps8
  go_wp2_with fail
  go_loopg [5] (s + 1) (fun k p wr => wr = w ∧ ((p = .pointer none ∧ r = false) ∨ ∃ u, u < k ∧ u < n ∧ p = .pointer (some ⟨CB u, 0, none⟩) ∧ sreach g u t = r))
  case atStart => exact ⟨rfl, Or.inr ⟨s, by omega, hs, rfl, HR.out⟩⟩
  case round =>
    obtain ⟨rfl, hrel⟩ := hrel
    rcases hrel with ⟨rfl, rfl⟩ | ⟨u, huk, hun, rfl, hru⟩
    · go_wp2_with fail
      go_ret
      exact ⟨rfl, rfl⟩
    · have heq := eql_cls hL hun ht
      obtain ⟨F, A, c, hrow, _, _, f4, _⟩ := hL.2 u hun
      have c4 := hrow.cell (i := 4) (by omega)
      rw [f4] at c4
      have HU : Hid (sreach g u t = r) := hru
      have Hq := sreach_eq hg hun t
      rw [hru] at Hq
      have Hq' : Hid (r = ((u == t) || (match g.sup u with | some p => sreach g p t | none => false))) := Hq
      clear hru Hq
      by_cases hut : u = t
      · have hb : (u == t) = true := by simp [hut]
        have Hr : Hid (r = true) := by have := Hq'.out; rw [hb, Bool.true_or] at this; exact this
        clear hut
        go_wp2_with fail
        go_ret
        exact ⟨by rw [Hr.out]; rfl, rfl⟩
      · have hb : (u == t) = false := by simp [hut]
        have Hr := Hq'.out
        rw [hb, Bool.false_or] at Hr
        clear hut
        cases hsu : g.sup u with
        | none =>
          rw [hsu] at Hr c4
          have Hr' : Hid (r = false) := Hr
          clear Hr
          simp only [ptr] at c4
          go_wp2_with fail
          go_roundg 0
          case measure => omega
          case rel => exact ⟨rfl, Or.inl ⟨rfl, Hr'.out⟩⟩
        | some q =>
          rw [hsu] at Hr c4
          have Hr' : Hid (sreach g q t = r) := Hr.symm
          have hqu := (hg u hun).1 q hsu
          clear Hr hsu
          simp only [ptr] at c4
          go_wp2_with fail
          go_roundg (q + 1)
          case measure => omega
          case rel => exact ⟨rfl, Or.inr ⟨q, by omega, by omega, rfl, Hr'.out⟩⟩
end Go.Proofs.Ybulkeyzu
