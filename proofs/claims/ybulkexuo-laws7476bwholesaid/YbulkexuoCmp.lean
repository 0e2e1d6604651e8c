import Derived.Test.YbulkexuoProg
import Derived.WalkKit
import Derived.WalkSpells
import Derived.WalkLawsBesides
namespace Go.Proofs.Ybulkexuo
open Go.RowKit

def cmp3 (x y : Int) : Int := if x < y then -1 else if y < x then 1 else 0

theorem cmp3_eq {x y : Int} (h : y ≤ x) (h2 : x ≤ y) : cmp3 x y = 0 := by
  unfold cmp3; rw [if_neg (by omega), if_neg (by omega)]

theorem cmp3_lt {x y : Int} (h : x < y) : cmp3 x y < 0 := by
  unfold cmp3; rw [if_pos h]; decide
theorem cmp3_ge {x y : Int} (h : ¬ x < y) : ¬ cmp3 x y < 0 := by
  unfold cmp3; rw [if_neg h]; split <;> decide
theorem cmp3_zero (x y : Int) : (cmp3 x y == 0) = decide (x = y) := by
  unfold cmp3
  by_cases h : x < y
  · rw [if_pos h]; simp; omega
  · rw [if_neg h]
    by_cases h2 : y < x
    · rw [if_pos h2]; simp; omega
    · rw [if_neg h2]; simp; omega

theorem nan_any (x : Int) (w : World) : Calls Yba.prog 33 #[.int .i32 x] w fun e w' => e = .returned (.bool false) ∧ w' = w := by
  go_enter Yba.func33, Yba.ntmps33
  go_wp2
  go_ret
  exact ⟨rfl, rfl⟩

theorem compare_any (x y : Int) (w : World) : Calls Yba.prog 28 #[.int .i32 x, .int .i32 y] w fun e w' => e = .returned (.int .i64 (cmp3 x y)) ∧ w' = w := by
  by_cases h : x < y
  · go_enter Yba.func28, Yba.ntmps28
    go_wp2_with (go_at_call 33; refine (nan_any _ _).mono ?_; rintro e w' ⟨rfl, rfl⟩)
    go_ret
    exact ⟨by simp [cmp3, h], rfl⟩
  · by_cases h2 : y < x
    · go_enter Yba.func28, Yba.ntmps28
      go_wp2_with (go_at_call 33; refine (nan_any _ _).mono ?_; rintro e w' ⟨rfl, rfl⟩)
      go_ret
      exact ⟨by simp [cmp3, h, h2], rfl⟩
    · go_enter Yba.func28, Yba.ntmps28
      go_wp2_with (go_at_call 33; refine (nan_any _ _).mono ?_; rintro e w' ⟨rfl, rfl⟩)
      go_ret
      exact ⟨by rw [cmp3_eq (by omega) (by omega)]; rfl, rfl⟩

theorem clos27_any (pr ct p : Int) (w : World) : Calls Yba.prog 27 #[.agg #[.int .i32 pr, .int .i32 ct], .int .i32 p] w fun e w' => e = .returned (.int .i64 (cmp3 pr p)) ∧ Below w.heap.size w w' := by
  go_enter Yba.func27, Yba.ntmps27
  go_wp2_with (go_at_call 28; refine (compare_any _ _ _).mono ?_; rintro e w' ⟨rfl, rfl⟩)
  go_ret
  exact ⟨rfl, (Below.refl _ _).alloc (Nat.le_refl _) _⟩
end Go.Proofs.Ybulkexuo
