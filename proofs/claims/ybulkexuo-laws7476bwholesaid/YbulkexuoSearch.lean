import Derived.Test.YbulkexuoCmp
namespace Go.Proofs.Ybulkexuo
open Go.RowKit

/-- n entries of two cells each lie at block b from off on: process P k, count C k. -/
def Entries (w : World) (b off n : Nat) (P C : Nat → Int) : Prop :=
  ∀ k, k < n → w.cell? ⟨b, off + k * 2, none⟩ = some (.int .i32 (P k)) ∧ w.cell? ⟨b, off + k * 2 + 1, none⟩ = some (.int .i32 (C k))

theorem Entries.below {w w' : World} {b off n : Nat} {P C : Nat → Int} (h : Entries w b off n P C) (hb : b < w.heap.size) (hw : Below w.heap.size w w') : Entries w' b off n P C := by
  intro k hk
  obtain ⟨h1, h2⟩ := h k hk
  exact ⟨(hw.cell (p := ⟨b, off + k * 2, none⟩) hb).trans h1, (hw.cell (p := ⟨b, off + k * 2 + 1, none⟩) hb).trans h2⟩

set_option maxHeartbeats 400000 in
theorem search_any (b off n c : Nat) (P C : Nat → Int) (p : Int) (w : World) (hn : n ≤ 1048576) (hb : b < w.heap.size) (hE : Entries w b off n P C)
    (hS : ∀ i j, i ≤ j → j < n → P i ≤ P j) :
    Calls Yba.prog 26 #[.slice (some ⟨b, off, none⟩) n c, .int .i32 p, .func (.func 27) #[] #[]] w fun e w' =>
      ∃ i : Nat, i ≤ n ∧ (∀ j, j < i → P j < p) ∧ (i < n → p ≤ P i) ∧ e = .returned (.tuple #[.int .i64 i, .bool (decide (i < n ∧ P i = p))]) ∧ Below w.heap.size w w' := by
  go_enter Yba.func26, Yba.ntmps26
  go_wp2
  go_loopw [9, 10] (fun lo hi wr => ∃ i j : Nat, i ≤ j ∧ j ≤ n ∧ lo = .int .i64 i ∧ hi = .int .i64 j ∧ (∀ k, k < i → P k < p) ∧ (∀ k, j ≤ k → k < n → p ≤ P k) ∧ Below w.heap.size w wr)
    (fun lo hi _ => (intOf hi - intOf lo).toNat)
  case atStart => exact ⟨0, n, by omega, by omega, rfl, rfl, fun k hk => by omega, fun k h1 h2 => by omega, Below.refl _ _⟩
  case round =>
    obtain ⟨i, j, hij, hj, rfl, rfl, hlo, hhi, hbel⟩ := hrel
    have hEr := hE.below hb hbel
    by_cases hlt : i < j
    · obtain ⟨c1, c2⟩ := hEr ((i + j) / 2) (by omega)
      by_cases hc : P ((i + j) / 2) < p
      · have hneg := cmp3_lt hc
        go_wp2_with (go_at_call 27; refine (clos27_any _ _ _ _).mono ?_; rintro e w' ⟨rfl, hb'⟩)
        go_roundw
        case rel => exact ⟨(i + j) / 2 + 1, j, by omega, by omega, by go_num, rfl, fun k hk => Int.lt_of_le_of_lt (hS k ((i + j) / 2) (by omega) (by omega)) hc, hhi, hbel.trans (hb'.mono hbel.size)⟩
        case measure => simp [intOf]; omega
      · have hneg := cmp3_ge hc
        go_wp2_with (go_at_call 27; refine (clos27_any _ _ _ _).mono ?_; rintro e w' ⟨rfl, hb'⟩)
        go_roundw
        case rel => exact ⟨i, (i + j) / 2, by omega, by omega, rfl, by go_num, hlo, fun k hk1 hk2 => Int.le_trans (by omega) (hS ((i + j) / 2) k (by omega) (by omega)), hbel.trans (hb'.mono hbel.size)⟩
        case measure => simp [intOf]; omega
    · obtain rfl : i = j := by omega
      by_cases hin : i < n
      · obtain ⟨c1, c2⟩ := hEr i (by omega)
        go_wp2_with (go_at_call 27; refine (clos27_any _ _ _ _).mono ?_; rintro e w' ⟨rfl, hb'⟩)
        go_ret2
        exact ⟨i, by omega, hlo, fun h => hhi i (Nat.le_refl _) h, by rw [cmp3_zero]; simp [hin], hbel.trans (hb'.mono hbel.size)⟩
      · go_wp2_with fail
        go_ret2
        exact ⟨i, by omega, hlo, fun h => hhi i (Nat.le_refl _) h, by simp [hin], hbel⟩
end Go.Proofs.Ybulkexuo
