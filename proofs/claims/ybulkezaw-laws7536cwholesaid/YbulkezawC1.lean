import Derived.Test.YbulkezawProg
import Derived.WalkKit
import Derived.WalkSpells
import Derived.WalkLawsBesides
import Derived.Laws.BitsAllLaws
import Derived.Deep.QuietTactic
import Derived.BigQuiet
import Derived.Deep.RegionWith
import Derived.Deep.RegionHeld3
namespace Go.Proofs.Ybulkezaw
open Go.RowKit

theorem mask30 (x : Int) (h0 : 0 ≤ x) (h1 : x < 1073741824) : bits .and .u64 x 1073741823 = x := by
  obtain ⟨n, rfl⟩ := Int.eq_ofNat_of_zero_le h0
  have := u64_and_nat n 1073741823 (by omega) (by omega)
  rw [show ((1073741823 : Nat) : Int) = 1073741823 from rfl] at this
  rw [this, show (1073741823 : Nat) = 2 ^ 30 - 1 from rfl, Nat.and_two_pow_sub_one_eq_mod]
  omega
theorem mono63 (x : Int) (h0 : 0 ≤ x) (h1 : x < 1073741824) : bits .and .u64 x 9223372036854775808 = 0 := by
  obtain ⟨n, rfl⟩ := Int.eq_ofNat_of_zero_le h0
  have := u64_and_nat n 9223372036854775808 (by omega) (by omega)
  rw [show ((9223372036854775808 : Nat) : Int) = 9223372036854775808 from rfl] at this
  rw [this, show (9223372036854775808 : Nat) = 2 ^ 63 from rfl, nat_bit]
  omega
theorem clear30 (x : Int) (h0 : 0 ≤ x) (h1 : x < 1073741824) : bits .andNot .u64 x 1073741823 = 0 := by
  obtain ⟨n, rfl⟩ := Int.eq_ofNat_of_zero_le h0
  have := u64_andNot_nat n 1073741823 (by omega) (by omega)
  rw [show ((1073741823 : Nat) : Int) = 1073741823 from rfl] at this
  rw [this]
  have h : n &&& (18446744073709551615 - 1073741823) = 0 := by
    apply Nat.eq_of_testBit_eq
    intro i
    rw [Nat.testBit_and, Nat.zero_testBit]
    by_cases hi : i < 30
    · have : Nat.testBit (18446744073709551615 - 1073741823) i = false := by
        rw [show (18446744073709551615 - 1073741823 : Nat) = 2 ^ 30 * 17179869183 from rfl, Nat.testBit_two_pow_mul]
        simp; omega
      rw [this, Bool.and_false]
    · rw [Nat.testBit_lt_two_pow (Nat.lt_of_lt_of_le (show n < 2 ^ 30 by omega) (Nat.pow_le_pow_right (by omega) (by omega))), Bool.false_and]
  rw [h]; rfl
theorem or0 (x : Int) (h0 : 0 ≤ x) (h1 : x < 1073741824) : bits .or .u64 0 x = x := by
  obtain ⟨n, rfl⟩ := Int.eq_ofNat_of_zero_le h0
  have := u64_or_nat 0 n (by omega) (by omega)
  rw [show ((0 : Nat) : Int) = 0 from rfl] at this
  rw [this, Nat.zero_or]
theorem and2 (x y : Int) (h0 : 0 ≤ x) (h1 : x < 1073741824) (g0 : 0 ≤ y) (g1 : y < 1073741824) : bits .and .u64 (bits .and .u64 x y) 9223372036854775808 = 0 := by
  have : 0 ≤ bits .and .u64 x y ∧ bits .and .u64 x y < 1073741824 := by
    obtain ⟨n, rfl⟩ := Int.eq_ofNat_of_zero_le h0
    obtain ⟨m, rfl⟩ := Int.eq_ofNat_of_zero_le g0
    rw [u64_and_nat n m (by omega) (by omega)]
    have : n &&& m ≤ n := Nat.and_le_left
    omega
  exact mono63 _ this.1 this.2

theorem nsec_any (b off : Nat) (ns : Int) (w : World) (h0 : 0 ≤ ns) (h1 : ns < 1000000000) (hc : w.cell? ⟨b, off, none⟩ = some (.int .u64 ns)) :
    Calls Yba.prog 9 #[.pointer (some ⟨b, off, none⟩)] w fun e w' => e = .returned (.int .i32 ns) ∧ w' = w := by
  have hm := mask30 ns h0 (by omega)
  go_enter Yba.func9, Yba.ntmps9
  go_wp2_with fail
  go_ret
  exact ⟨rfl, rfl⟩

theorem sec_any (b off : Nat) (ns sc : Int) (w : World) (h0 : 0 ≤ ns) (h1 : ns < 1000000000) (hc : w.cell? ⟨b, off, none⟩ = some (.int .u64 ns)) (hc1 : w.cell? ⟨b, off + 1, none⟩ = some (.int .i64 sc)) :
    Calls Yba.prog 13 #[.pointer (some ⟨b, off, none⟩)] w fun e w' => e = .returned (.int .i64 sc) ∧ w' = w := by
  have hm := mono63 ns h0 (by omega)
  go_enter Yba.func13, Yba.ntmps13
  go_wp2_with fail
  go_ret
  exact ⟨rfl, rfl⟩

theorem addSec_any (b off : Nat) (ns sc d : Int) (w : World) (h0 : 0 ≤ ns) (h1 : ns < 1000000000) (s0 : -1000000000000 ≤ sc) (s1 : sc ≤ 1000000000000) (d0 : -1000000000000 ≤ d) (d1 : d ≤ 1000000000000)
    (hc : w.cell? ⟨b, off, none⟩ = some (.int .u64 ns)) (hc1 : w.cell? ⟨b, off + 1, none⟩ = some (.int .i64 sc)) (hf : w.frozen? ⟨b, off + 1, none⟩ = false) :
    Calls Yba.prog 10 #[.pointer (some ⟨b, off, none⟩), .int .i64 d] w fun e w' => e = .returned (.tuple #[]) ∧ w' = w.setCell ⟨b, off + 1, none⟩ (.int .i64 (sc + d)) := by
  have hm := mono63 ns h0 (by omega)
  by_cases hd : 0 < d
  · go_enter Yba.func10, Yba.ntmps10
    go_wp2_with fail
    go_end0
    exact ⟨rfl, rfl⟩
  · have hle : decide (sc < sc + d) = false := by simp; omega
    go_enter Yba.func10, Yba.ntmps10
    go_wp2_with fail
    go_end0
    exact ⟨rfl, rfl⟩

/-- a Time without a monotonic clock and without a place: nanoseconds and seconds -/
abbrev tm (ns sc : Int) : Value := .agg #[.int .u64 ns, .int .i64 sc, .pointer none]

theorem tm_eq {a b c d : Int} (h : a = c) (g : b = d) : Ending.returned (tm a b) = .returned (tm c d) := by rw [h, g]

theorem addSec_at (b : Nat) (ns sc d : Int) (w : World) (h0 : 0 ≤ ns) (h1 : ns < 1000000000) (s0 : -1000000000000 ≤ sc) (s1 : sc ≤ 1000000000000) (d0 : -1000000000000 ≤ d) (d1 : d ≤ 1000000000000)
    (hc : w.cell? ⟨b, 0, none⟩ = some (.int .u64 ns)) (hc1 : w.cell? ⟨b, 1, none⟩ = some (.int .i64 sc)) (hf : w.frozen? ⟨b, 1, none⟩ = false) :
    Calls Yba.prog 10 #[.pointer (some ⟨b, 0, none⟩), .int .i64 d] w fun e w' => e = .returned (.tuple #[]) ∧ w' = w.setCell ⟨b, 1, none⟩ (.int .i64 (sc + d)) :=
  addSec_any b 0 ns sc d w h0 h1 s0 s1 d0 d1 hc (by simpa using hc1) (by simpa using hf)

set_option maxHeartbeats 400000 in
theorem add_any (ns sc d : Int) (w : World) (h0 : 0 ≤ ns) (h1 : ns < 1000000000) (s0 : -100000000000 ≤ sc) (s1 : sc ≤ 100000000000) (d0 : -9223372036854775808 ≤ d) (d1 : d ≤ 9223372036854775807) :
    Calls Yba.prog 4 #[tm ns sc, .int .i64 d] w fun e w' => e = .returned (tm ((ns + d) % 1000000000) (sc + (ns + d) / 1000000000)) ∧ ∃ c1 c2 : Array Value, w' = (w.alloc (.cells c1 26)).alloc (.cells c2 26) := by
  obtain ⟨q, hq⟩ : ∃ q, d.tdiv 1000000000 = q := ⟨_, rfl⟩
  obtain ⟨r, hr⟩ : ∃ r, d.tmod 1000000000 = r := ⟨_, rfl⟩
  have hdq : d = q * 1000000000 + r := by
    have := Int.mul_tdiv_add_tmod d 1000000000
    rw [hq, hr] at this; omega
  have hr1 : -1000000000 < r ∧ r < 1000000000 := by
    have a := Int.tmod_lt_of_pos d (show (0 : Int) < 1000000000 by omega)
    have b := Int.lt_tmod_of_pos d (show (0 : Int) < 1000000000 by omega)
    omega
  have HD : Hid (d = q * 1000000000 + r) := hdq
  have q0 : -10000000000 ≤ q := by omega
  have q1 : q ≤ 10000000000 := by omega
  obtain ⟨r0, r1⟩ := hr1
  clear hdq
  by_cases hge : 1000000000 ≤ ns + r
  · have c30 := clear30 ns h0 (by omega)
    have co := or0 (ns + r - 1000000000) (by omega) (by omega)
    have cm := mono63 (ns + r - 1000000000) (by omega) (by omega)
    go_enter Yba.func4, Yba.ntmps4
    go_wp2_with (first
      | (go_at_call 9; refine (nsec_any _ _ ns _ h0 h1 (by simp)).mono ?_; rintro e w' ⟨rfl, rfl⟩)
      | (go_at_call 10; refine (addSec_at _ (ns + r - 1000000000) sc (q + 1) _ (by omega) (by omega) (by omega) (by omega) (by omega) (by omega) (by simp) (by simp) (by simp)).mono ?_; rintro e w' ⟨rfl, rfl⟩))
    exact bodyPost_ret (v := tm (ns + r - 1000000000) (sc + (q + 1))) (by simp [results, Yba.results4, go_sem, tm]) rfl ⟨tm_eq (by have := HD.out; omega) (by have := HD.out; omega), _, _, rfl⟩
  · by_cases hlt : ns + r < 0
    · have c30 := clear30 ns h0 (by omega)
      have co := or0 (ns + r + 1000000000) (by omega) (by omega)
      have cm := mono63 (ns + r + 1000000000) (by omega) (by omega)
      go_enter Yba.func4, Yba.ntmps4
      go_wp2_with (first
        | (go_at_call 9; refine (nsec_any _ _ ns _ h0 h1 (by simp)).mono ?_; rintro e w' ⟨rfl, rfl⟩)
        | (go_at_call 10; refine (addSec_at _ (ns + r + 1000000000) sc (q - 1) _ (by omega) (by omega) (by omega) (by omega) (by omega) (by omega) (by simp) (by simp) (by simp)).mono ?_; rintro e w' ⟨rfl, rfl⟩))
      exact bodyPost_ret (v := tm (ns + r + 1000000000) (sc + (q - 1))) (by simp [results, Yba.results4, go_sem, tm]) rfl ⟨tm_eq (by have := HD.out; omega) (by have := HD.out; omega), _, _, rfl⟩
    · have c30 := clear30 ns h0 (by omega)
      have co := or0 (ns + r) (by omega) (by omega)
      have cm := mono63 (ns + r) (by omega) (by omega)
      go_enter Yba.func4, Yba.ntmps4
      go_wp2_with (first
        | (go_at_call 9; refine (nsec_any _ _ ns _ h0 h1 (by simp)).mono ?_; rintro e w' ⟨rfl, rfl⟩)
        | (go_at_call 10; refine (addSec_at _ (ns + r) sc (q) _ (by omega) (by omega) (by omega) (by omega) (by omega) (by omega) (by simp) (by simp) (by simp)).mono ?_; rintro e w' ⟨rfl, rfl⟩))
      exact bodyPost_ret (v := tm (ns + r) (sc + (q))) (by simp [results, Yba.results4, go_sem, tm]) rfl ⟨tm_eq (by have := HD.out; omega) (by have := HD.out; omega), _, _, rfl⟩

theorem equal_same (ns sc : Int) (w : World) (h0 : 0 ≤ ns) (h1 : ns < 1000000000) :
    Calls Yba.prog 14 #[tm ns sc, tm ns sc] w fun e w' => e = .returned (.bool true) ∧ ∃ c1 c2 : Array Value, w' = (w.alloc (.cells c1 26)).alloc (.cells c2 26) := by
  have ha := and2 ns ns h0 (by omega) h0 (by omega)
  go_enter Yba.func14, Yba.ntmps14
  go_wp2_with (first
      | (go_at_call 9; refine (nsec_any _ _ ns _ h0 h1 (by simp)).mono ?_; rintro e w' ⟨rfl, rfl⟩)
      | (go_at_call 13; refine (sec_any _ _ ns sc _ h0 h1 (by simp) (by simp)).mono ?_; rintro e w' ⟨rfl, rfl⟩))
  go_ret
  exact ⟨rfl, _, _, rfl⟩

set_option maxHeartbeats 1000000 in
theorem sub_any (n1 s1 n2 s2 d : Int) (w : World) (h0 : 0 ≤ n1) (h1 : n1 < 1000000000) (g0 : 0 ≤ n2) (g1 : n2 < 1000000000)
    (hs0 : -100000000000 ≤ s2) (hs1 : s2 ≤ 100000000000) (hd0 : 0 ≤ s1 - s2) (hd1 : s1 - s2 ≤ 5000000000) (hd : d = (s1 - s2) * 1000000000 + (n1 - n2)) :
    Calls Yba.prog 7 #[tm n1 s1, tm n2 s2] w fun e w' => e = .returned (.int .i64 d) ∧ Below w.heap.size w w' := by
  have ha := and2 n1 n2 h0 (by omega) g0 (by omega)
  have e1 : (n2 + d) % 1000000000 = n1 := by omega
  have e2 : s2 + (n2 + d) / 1000000000 = s1 := by omega
  have HD : Hid (d = (s1 - s2) * 1000000000 + (n1 - n2)) := hd
  have hd' : (s1 - s2) * 1000000000 + (n1 - n2) = d := hd.symm
  have dl : -9223372036854775808 ≤ d := by omega
  have du : d ≤ 9223372036854775807 := by omega
  clear hd
  go_enter Yba.func7, Yba.ntmps7
  go_wp2_with fail
  refine (sec_any _ _ n1 s1 _ h0 h1 (by simp) (by simp)).mono ?_
  rintro e w' ⟨rfl, rfl⟩
  go_wp2_with fail
  refine (sec_any _ _ n2 s2 _ g0 g1 (by simp) (by simp)).mono ?_
  rintro e w' ⟨rfl, rfl⟩
  go_wp2_with fail
  refine (nsec_any _ _ n1 _ h0 h1 (by simp)).mono ?_
  rintro e w' ⟨rfl, rfl⟩
  go_wp2_with fail
  refine (nsec_any _ _ n2 _ g0 g1 (by simp)).mono ?_
  rintro e w' ⟨rfl, rfl⟩
  go_wp2_with fail
  go_region_held3 (fun w' => w'.cell? ⟨w.heap.size, 0, none⟩ = some (.int .u64 n1) ∧ w'.cell? ⟨w.heap.size, 1, none⟩ = some (.int .i64 s1) ∧ w'.cell? ⟨w.heap.size, 2, none⟩ = some (.pointer none) ∧ w'.cell? ⟨w.heap.size + 1, 0, none⟩ = some (.int .u64 n2) ∧ w'.cell? ⟨w.heap.size + 1, 1, none⟩ = some (.int .i64 s2) ∧ w'.cell? ⟨w.heap.size + 1, 2, none⟩ = some (.pointer none)) (simp [go_sem, World.cell?_alloc_past])
    (first
      | (go_at_call 4; refine (add_any n2 s2 d _ g0 g1 hs0 hs1 dl du).mono ?_; rintro e w' ⟨rfl, o1, o2, rfl⟩; rw [e1, e2])
      | (go_at_call 14; refine (equal_same n1 s1 _ h0 h1).mono ?_; rintro e w' ⟨rfl, o1, o2, rfl⟩))
  go_wp2_with fail
  go_ret
  exact ⟨rfl, by repeat (first | exact Below.refl _ _ | refine Below.drew ?_ | refine Below.alloc ?_ (by simp <;> omega) _)⟩
end Go.Proofs.Ybulkezaw
