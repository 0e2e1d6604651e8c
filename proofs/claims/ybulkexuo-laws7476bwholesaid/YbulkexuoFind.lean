import Derived.Test.YbulkexuoSearch
namespace Go.Proofs.Ybulkexuo
open Go.RowKit

/-- the count of the first entry of process p among the first n, and whether there is one -/
def fnd (P C : Nat → Int) (p : Int) : Nat → Int × Bool
  | 0 => (0, false)
  | n + 1 => if (fnd P C p n).2 then fnd P C p n else if P n = p then (C n, true) else (0, false)

theorem fnd_miss {P C : Nat → Int} {p : Int} {n : Nat} (h : ∀ j, j < n → P j ≠ p) : fnd P C p n = (0, false) := by
  induction n with
  | zero => rfl
  | succ n ih =>
    rw [fnd, ih (fun j hj => h j (by omega))]
    simp [h n (by omega)]

theorem fnd_hit {P C : Nat → Int} {p : Int} {n i : Nat} (hi : i < n) (he : P i = p) (h : ∀ j, j < i → P j ≠ p) : fnd P C p n = (C i, true) := by
  induction n with
  | zero => omega
  | succ n ih =>
    rw [fnd]
    by_cases hin : i < n
    · rw [ih hin]; simp
    · obtain rfl : i = n := by omega
      rw [fnd_miss h]; simp [he]

theorem ret2_int {k : IntKind} {a b : Int} {x y : Bool} (h : (a, x) = (b, y)) : Ending.returned (.tuple #[.int k a, .bool x]) = .returned (.tuple #[.int k b, .bool y]) := by
  cases h; rfl

set_option maxHeartbeats 400000 in
theorem find_long (b off n c : Nat) (P C : Nat → Int) (p : Int) (w : World) (hn : n ≤ 1048576) (h16 : 16 < n) (hb : b < w.heap.size) (hE : Entries w b off n P C)
    (hS : ∀ i j, i ≤ j → j < n → P i ≤ P j) :
    Calls Yba.prog 16 #[.slice (some ⟨b, off, none⟩) n c, .int .i32 p] w fun e w' =>
      e = .returned (.tuple #[.int .i32 (fnd P C p n).1, .bool (fnd P C p n).2]) ∧ Below w.heap.size w w' := by
  go_enter Yba.func16, Yba.ntmps16
  go_wp2_with fail
  refine (search_any b off n c P C p _ hn hb hE hS).mono ?_
  rintro e w1 ⟨i, hi, hlo, hhi, rfl, hbel⟩
  have hE1 := hE.below hb hbel
  by_cases hit : i < n ∧ P i = p
  · have hd : decide (i < n ∧ P i = p) = true := by simp [hit]
    rw [hd]
    obtain ⟨c1, c2⟩ := hE1 i hit.1
    have hi' : (i : Int) < n := by omega
    have Hf : Hid (fnd P C p n = (C i, true)) := fnd_hit hit.1 hit.2 (fun j hj => by have := hlo j hj; omega)
    clear hit hd
    go_wp2_with fail
    go_ret2
    exact ⟨by rw [Hf.out]; rfl, hbel⟩
  · have hd : decide (i < n ∧ P i = p) = false := by simp only [decide_eq_false_iff_not]; exact hit
    rw [hd]
    have Hf : Hid (fnd P C p n = (0, false)) := fnd_miss (fun j hj => by
      by_cases hji : j < i
      · have := hlo j hji; omega
      · intro hjp
        have h1 := hhi (by omega)
        have h2 := hS i j (by omega) hj
        exact hit ⟨by omega, by omega⟩)
    clear hit hd
    go_wp2_with fail
    go_ret2
    exact ⟨by rw [Hf.out]; rfl, hbel⟩

set_option maxHeartbeats 400000 in
theorem find_short (a : Option Addr) (n c : Nat) (P C : Nat → Int) (p : Int) (w : World) (h16 : n ≤ 16) (hE : 0 < n → ∃ b off, a = some ⟨b, off, none⟩ ∧ b < w.heap.size ∧ Entries w b off n P C)
    (hS : ∀ i j, i ≤ j → j < n → P i ≤ P j) :
    Calls Yba.prog 16 #[.slice a n c, .int .i32 p] w fun e w' =>
      e = .returned (.tuple #[.int .i32 (fnd P C p n).1, .bool (fnd P C p n).2]) ∧ Below w.heap.size w w' := by
  go_enter Yba.func16, Yba.ntmps16
  go_wp2_with fail
  go_loopw [28] (fun i wr => ∃ k : Nat, k ≤ n ∧ i = .int .i64 k ∧ (∀ j, j < k → P j ≠ p) ∧ Below w.heap.size w wr) (fun i _ => n - (intOf i).toNat)
  case atStart => exact ⟨0, by omega, rfl, fun j hj => by omega, Below.refl _ _⟩
  case round =>
    obtain ⟨k, hk, rfl, hmiss, hbel⟩ := hrel
    by_cases hlt : k < n
    · obtain ⟨b, off, rfl, hb, hE⟩ := hE (by omega)
      obtain ⟨c1, c2⟩ := (hE.below hb hbel) k hlt
      have hsz := hbel.size
      by_cases heq : P k = p
      · have hq : (P k == p) = true := by simp [heq]
        have Hf : Hid (fnd P C p n = (C k, true)) := fnd_hit hlt heq hmiss
        clear heq
        go_wp2_with fail
        go_ret2
        exact ⟨by rw [Hf.out]; rfl, hbel.alloc hsz _⟩
      · have hq : (P k == p) = false := by simp [heq]
        by_cases hgt : p < P k
        · have Hf : Hid (fnd P C p n = (0, false)) := fnd_miss (fun j hj => by
            by_cases hjk : j < k
            · exact hmiss j hjk
            · have := hS k j (by omega) hj; omega)
          clear heq
          go_wp2_with fail
          go_ret2
          exact ⟨by rw [Hf.out]; rfl, hbel.alloc hsz _⟩
        · have Hm : Hid (∀ j, j < k + 1 → P j ≠ p) := fun j hj => by
            by_cases hjk : j < k
            · exact hmiss j hjk
            · obtain rfl : j = k := by omega
              exact heq
          clear heq
          go_wp2_with fail
          go_roundw
          case rel => exact ⟨k + 1, by omega, by go_num, Hm.out, hbel.alloc hsz _⟩
          case measure => simp [intOf]; omega
    · have Hf : Hid (fnd P C p n = (0, false)) := fnd_miss (fun j hj => hmiss j (by omega))
      go_wp2_with fail
      go_ret2
      exact ⟨by rw [Hf.out]; rfl, hbel⟩
end Go.Proofs.Ybulkexuo
