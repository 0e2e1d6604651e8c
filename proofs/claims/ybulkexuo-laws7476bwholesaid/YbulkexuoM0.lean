import Derived.Test.YbulkexuoLaws
import Derived.Laws.Bits64b
namespace Go.Proofs.Ybulkexuo
open Go.RowKit

/-! ### bits.OnesCount64, below 2^20 -/
/-- how many of the bits below q are set -/
def rk (m : Nat) : Nat → Nat
  | 0 => 0
  | q + 1 => rk m q + m / 2 ^ q % 2
theorem rk_le (m : Nat) : ∀ q, rk m q ≤ q
  | 0 => Nat.le_refl _
  | q + 1 => by
    have := rk_le m q
    have := Nat.mod_lt (m / 2 ^ q) (show 0 < 2 by omega)
    unfold rk
    omega
theorem rk_mod (m q : Nat) : ∀ k, k ≤ q → rk (m % 2 ^ q) k = rk m k
  | 0, _ => rfl
  | k + 1, h => by
    unfold rk
    rw [rk_mod m q k (by omega)]
    have : m % 2 ^ q / 2 ^ k % 2 = m / 2 ^ k % 2 := by
      have h1 : (m % 2 ^ q).testBit k = m.testBit k := by rw [Nat.testBit_mod_two_pow]; simp [show k < q by omega]
      rw [Nat.testBit_eq_decide_div_mod_eq, Nat.testBit_eq_decide_div_mod_eq] at h1
      have h2 := Nat.mod_lt (m % 2 ^ q / 2 ^ k) (show 0 < 2 by omega)
      have h3 := Nat.mod_lt (m / 2 ^ k) (show 0 < 2 by omega)
      simp only [decide_eq_decide] at h1
      omega
    rw [this]
theorem rk_high {x q : Nat} (hx : x < 2 ^ q) : ∀ k, rk x (q + k) = rk x q
  | 0 => rfl
  | k + 1 => by
    show rk x (q + k) + x / 2 ^ (q + k) % 2 = _
    rw [rk_high hx k, Nat.div_eq_of_lt (Nat.lt_of_lt_of_le hx (Nat.pow_le_pow_right (by omega) (by omega)))]
    simp

def kE (k : Nat) : Nat → Nat → Nat
  | 0, _ => 0
  | f + 1, x => x % 2 ^ k + 2 ^ (2 * k) * kE k f (x / 2 ^ (2 * k))
def mk (k : Nat) : Nat → Nat
  | 0 => 0
  | f + 1 => (2 ^ k - 1) + 2 ^ (2 * k) * mk k f
theorem and_mk (k : Nat) : ∀ f x, x &&& mk k f = kE k f x
  | 0, x => by simp [mk, kE]
  | f + 1, x => by
    unfold mk kE
    rw [← and_mk k f]
    have hp : 2 ^ k - 1 < 2 ^ (2 * k) := by
      have : 2 ^ k ≤ 2 ^ (2 * k) := Nat.pow_le_pow_right (by omega) (by omega)
      have : 0 < 2 ^ k := Nat.pos_of_ne_zero (by simp)
      omega
    have hm : x % 2 ^ k < 2 ^ (2 * k) := Nat.lt_of_lt_of_le (Nat.mod_lt _ (Nat.pos_of_ne_zero (by simp))) (Nat.pow_le_pow_right (by omega) (by omega))
    refine Nat.eq_of_testBit_eq fun i => ?_
    rw [Nat.testBit_and, Nat.add_comm (2 ^ k - 1), Nat.add_comm (x % 2 ^ k), Nat.testBit_two_pow_mul_add _ hp, Nat.testBit_two_pow_mul_add _ hm]
    by_cases hi : i < 2 * k
    · rw [if_pos hi, if_pos hi, Nat.testBit_two_pow_sub_one, Nat.testBit_mod_two_pow, Bool.and_comm]
    · rw [if_neg hi, if_neg hi, Nat.testBit_and, Nat.testBit_div_two_pow]
      rw [show i - 2 * k + 2 * k = i by omega]
theorem kE_zero (k : Nat) : ∀ f, kE k f 0 = 0
  | 0 => rfl
  | f + 1 => by simp [kE, kE_zero k f]
theorem kE_few (k : Nat) : ∀ g e x, x < 2 ^ (2 * k * g) → kE k (g + e) x = kE k g x
  | 0, e, x, h => by
    have : x = 0 := by simpa using h
    subst this
    rw [kE_zero, kE_zero]
  | g + 1, e, x, h => by
    rw [show g + 1 + e = (g + e) + 1 by omega]
    unfold kE
    rw [kE_few k g e]
    rw [Nat.div_lt_iff_lt_mul (Nat.pos_of_ne_zero (by simp)), ← Nat.pow_add]
    rwa [show 2 * k * g + 2 * k = 2 * k * (g + 1) by rw [Nat.mul_add, Nat.mul_one]]
def D1 : Nat → Nat → Nat
  | 0, _ => 0
  | f + 1, x => (x % 2 + x / 2 % 2) + 4 * D1 f (x / 4)
theorem D1_eq : ∀ f x, kE 1 f (x / 2) + kE 1 f x = D1 f x
  | 0, _ => rfl
  | f + 1, x => by
    have ih := D1_eq f (x / 4)
    have e : x / 2 / 4 = x / 4 / 2 := by omega
    show (x / 2 % 2 + 4 * kE 1 f (x / 2 / 4)) + (x % 2 + 4 * kE 1 f (x / 4)) = (x % 2 + x / 2 % 2) + 4 * D1 f (x / 4)
    rw [e]
    omega
def D2 : Nat → Nat → Nat
  | 0, _ => 0
  | f + 1, x => (x % 2 + x / 2 % 2 + (x / 4 % 2 + x / 4 / 2 % 2)) + 16 * D2 f (x / 4 / 4)
theorem D2_eq : ∀ f x, kE 2 f (D1 (2 * f) x / 4) + kE 2 f (D1 (2 * f) x) = D2 f x
  | 0, _ => rfl
  | f + 1, x => by
    have ih := D2_eq f (x / 4 / 4)
    have hD : D1 (2 * (f + 1)) x = (x % 2 + x / 2 % 2) + 4 * ((x / 4 % 2 + x / 4 / 2 % 2) + 4 * D1 (2 * f) (x / 4 / 4)) := rfl
    rw [hD]
    generalize D1 (2 * f) (x / 4 / 4) = y at *
    have e1 : ((x % 2 + x / 2 % 2) + 4 * ((x / 4 % 2 + x / 4 / 2 % 2) + 4 * y)) % 4 = x % 2 + x / 2 % 2 := by omega
    have e2 : ((x % 2 + x / 2 % 2) + 4 * ((x / 4 % 2 + x / 4 / 2 % 2) + 4 * y)) / 4 = (x / 4 % 2 + x / 4 / 2 % 2) + 4 * y := by omega
    have e3 : ((x % 2 + x / 2 % 2) + 4 * ((x / 4 % 2 + x / 4 / 2 % 2) + 4 * y)) / 16 = y := by omega
    have e4 : ((x / 4 % 2 + x / 4 / 2 % 2) + 4 * y) % 4 = x / 4 % 2 + x / 4 / 2 % 2 := by omega
    have e5 : ((x / 4 % 2 + x / 4 / 2 % 2) + 4 * y) / 16 = y / 4 := by omega
    show (((x % 2 + x / 2 % 2) + 4 * ((x / 4 % 2 + x / 4 / 2 % 2) + 4 * y)) / 4 % 4 + 16 * kE 2 f (((x % 2 + x / 2 % 2) + 4 * ((x / 4 % 2 + x / 4 / 2 % 2) + 4 * y)) / 4 / 16)) + (((x % 2 + x / 2 % 2) + 4 * ((x / 4 % 2 + x / 4 / 2 % 2) + 4 * y)) % 4 + 16 * kE 2 f (((x % 2 + x / 2 % 2) + 4 * ((x / 4 % 2 + x / 4 / 2 % 2) + 4 * y)) / 16)) = (x % 2 + x / 2 % 2 + (x / 4 % 2 + x / 4 / 2 % 2)) + 16 * D2 f (x / 4 / 4)
    rw [e1, e2, e3, e4, e5]
    omega
theorem D1_lt : ∀ f x, D1 f x < 4 ^ f
  | 0, _ => by simp [D1]
  | f + 1, x => by
    have := D1_lt f (x / 4)
    show (x % 2 + x / 2 % 2) + 4 * D1 f (x / 4) < 4 ^ (f + 1)
    rw [Nat.pow_succ]
    omega
/-- the nibbles' counts -/
theorem D2_5 (x : Nat) : ∃ n0 n1 n2 n3 n4, D2 5 x = n0 + 16 * (n1 + 16 * (n2 + 16 * (n3 + 16 * (n4 + 16 * 0)))) ∧ n0 ≤ 4 ∧ n1 ≤ 4 ∧ n2 ≤ 4 ∧ n3 ≤ 4 ∧ n4 ≤ 4 ∧ rk x 20 = n0 + n1 + n2 + n3 + n4 := by
  refine ⟨_, _, _, _, _, rfl, ?_, ?_, ?_, ?_, ?_, ?_⟩
  · omega
  · omega
  · omega
  · omega
  · omega
  · simp only [rk, Nat.div_div_eq_div_mul, Nat.reduceMul, Nat.reducePow, Nat.div_one, Nat.zero_add, Nat.add_assoc]
theorem dig (a b c d e : Nat) (ha : a ≤ 8) (hb : b ≤ 8) (hc : c ≤ 8) (hd : d ≤ 8) (he : e ≤ 4) :
    (a + 16 * (b + 16 * (c + 16 * (d + 16 * e)))) % 16 + 256 * ((a + 16 * (b + 16 * (c + 16 * (d + 16 * e)))) / 256 % 16 + 256 * ((a + 16 * (b + 16 * (c + 16 * (d + 16 * e)))) / 256 / 256 % 16 + 256 * 0)) = a + 256 * (c + 256 * e) := by
  have e1 : (a + 16 * (b + 16 * (c + 16 * (d + 16 * e)))) % 16 = a := by omega
  have e2 : (a + 16 * (b + 16 * (c + 16 * (d + 16 * e)))) / 256 = c + 16 * (d + 16 * e) := by omega
  have e3 : (c + 16 * (d + 16 * e)) % 16 = c := by omega
  have e4 : (c + 16 * (d + 16 * e)) / 256 = e := by omega
  have e5 : e % 16 = e := by omega
  rw [e2, e1, e3, e4, e5]
  simp
theorem fin5 (a c e : Nat) (ha : a ≤ 8) (hc : c ≤ 8) (he : e ≤ 4) :
    ((a + 256 * (c + 256 * e)) + (a + 256 * (c + 256 * e)) / 256) / 65536 = e ∧ (((a + 256 * (c + 256 * e)) + (a + 256 * (c + 256 * e)) / 256) + ((a + 256 * (c + 256 * e)) + (a + 256 * (c + 256 * e)) / 256) / 65536) % 128 = a + c + e := by
  have e1 : (a + 256 * (c + 256 * e)) / 256 = c + 256 * e := by omega
  rw [e1]
  have e2 : (a + 256 * (c + 256 * e) + (c + 256 * e)) / 65536 = e := by omega
  rw [e2]
  exact ⟨rfl, by omega⟩

theorem ones_law (x : Nat) (hx : x < 1048576) : ∃ s1 s2 s3 s4 : Nat, s1 < 1048576 ∧ s2 < 1048576 ∧ s3 < 16777216 ∧ s4 < 33554432 ∧
    (x / 2 &&& 6148914691236517205) + (x &&& 6148914691236517205) = s1 ∧ (s1 / 4 &&& 3689348814741910323) + (s1 &&& 3689348814741910323) = s2 ∧ (s2 / 16 + s2) &&& 1085102592571150095 = s3 ∧ s3 + s3 / 256 = s4 ∧ (s4 + s4 / 65536) % 128 = rk x 20 ∧ s4 / 65536 < 1024 := by
  have m0 : 6148914691236517205 = mk 1 (10 + 22) := by decide
  have m1 : 3689348814741910323 = mk 2 (5 + 11) := by decide
  have m2 : 1085102592571150095 = mk 4 (3 + 5) := by decide
  obtain ⟨n0, n1, n2, n3, n4, h, b0, b1, b2, b3, b4, hr⟩ := D2_5 x
  have l1 := D1_lt 10 x
  have a1 : (x / 2 &&& 6148914691236517205) + (x &&& 6148914691236517205) = D1 10 x := by
    rw [m0, and_mk, and_mk, kE_few 1 10 22 _ (by simp only [Nat.reduceMul, Nat.reducePow]; omega), kE_few 1 10 22 _ (by simp only [Nat.reduceMul, Nat.reducePow]; omega), D1_eq]
  have a2 : (D1 10 x / 4 &&& 3689348814741910323) + (D1 10 x &&& 3689348814741910323) = D2 5 x := by
    rw [m1, and_mk, and_mk, kE_few 2 5 11 _ (by simp only [Nat.reduceMul, Nat.reducePow] at *; omega), kE_few 2 5 11 _ (by simp only [Nat.reduceMul, Nat.reducePow] at *; omega)]
    exact D2_eq 5 x
  have l2 : D2 5 x < 1048576 := by rw [h]; omega
  have a3 : (D2 5 x / 16 + D2 5 x) &&& 1085102592571150095 = (n0 + n1) + 256 * ((n2 + n3) + 256 * n4) := by
    rw [m2, and_mk, kE_few 4 3 5 _ (by simp only [Nat.reduceMul, Nat.reducePow]; omega), h]
    have e1 : ((n0 + 16 * (n1 + 16 * (n2 + 16 * (n3 + 16 * (n4 + 16 * 0))))) / 16 + (n0 + 16 * (n1 + 16 * (n2 + 16 * (n3 + 16 * (n4 + 16 * 0)))))) = (n0 + n1) + 16 * ((n1 + n2) + 16 * ((n2 + n3) + 16 * ((n3 + n4) + 16 * n4))) := by clear h hr l1 a1 a2 l2; omega
    rw [e1]
    exact dig (n0 + n1) (n1 + n2) (n2 + n3) (n3 + n4) n4 (by omega) (by omega) (by omega) (by omega) b4
  obtain ⟨f1, f2⟩ := fin5 (n0 + n1) (n2 + n3) n4 (by omega) (by omega) b4
  refine ⟨D1 10 x, D2 5 x, _, _, by simpa using l1, l2, ?_, ?_, a1, a2, a3, rfl, ?_, ?_⟩
  · clear f1 f2 a1 a2 a3 h hr l1; omega
  · clear f1 f2 a1 a2 a3 h hr l1; omega
  · rw [f2, hr]; omega
  · rw [f1]; omega

set_option maxHeartbeats 1000000 in
theorem ones_any (x : Nat) (w : World) (hx : x < 1048576) :
    Calls Yba.prog 32 #[.int .u64 x] w fun e w' => e = .returned (.int .i64 (rk x 20 : Nat)) ∧ w' = w := by
  obtain ⟨s1, s2, s3, s4, l1, l2, l3, l4, a1, a2, a3, a4, a5, l5⟩ := ones_law x hx
  have W : ∀ z : Int, 0 ≤ z → z < 18446744073709551616 → IntKind.u64.wrap z = z := fun z h1 h2 => by rw [IntKind.wrap_u64]; omega
  have e1 : bits .and .u64 ((x : Int) / 2) 6148914691236517205 = ((x / 2 &&& 6148914691236517205 : Nat) : Int) := bits_and_u64_nat (x / 2) 6148914691236517205 (by omega) (by omega)
  have e2 : bits .and .u64 (x : Int) 6148914691236517205 = ((x &&& 6148914691236517205 : Nat) : Int) := bits_and_u64_nat x 6148914691236517205 (by omega) (by omega)
  have e3 : IntKind.u64.wrap (((x / 2 &&& 6148914691236517205 : Nat) : Int) + ((x &&& 6148914691236517205 : Nat) : Int)) = (s1 : Int) := by rw [W _ (by omega) (by omega)]; omega
  have e4 : bits .and .u64 ((s1 : Int) / 4) 3689348814741910323 = ((s1 / 4 &&& 3689348814741910323 : Nat) : Int) := bits_and_u64_nat (s1 / 4) 3689348814741910323 (by omega) (by omega)
  have e5 : bits .and .u64 (s1 : Int) 3689348814741910323 = ((s1 &&& 3689348814741910323 : Nat) : Int) := bits_and_u64_nat s1 3689348814741910323 (by omega) (by omega)
  have e6 : IntKind.u64.wrap (((s1 / 4 &&& 3689348814741910323 : Nat) : Int) + ((s1 &&& 3689348814741910323 : Nat) : Int)) = (s2 : Int) := by rw [W _ (by omega) (by omega)]; omega
  obtain ⟨t3, ht3⟩ : ∃ t3, t3 = s2 / 16 + s2 := ⟨_, rfl⟩
  have e7 : IntKind.u64.wrap ((s2 : Int) / 16 + (s2 : Int)) = (t3 : Int) := by rw [W _ (by omega) (by omega)]; omega
  have e8 : bits .and .u64 (t3 : Int) 1085102592571150095 = (s3 : Int) := by rw [← a3, ← ht3]; exact bits_and_u64_nat t3 1085102592571150095 (by omega) (by omega)
  have e9 : IntKind.u64.wrap ((s3 : Int) + (s3 : Int) / 256) = (s4 : Int) := by rw [W _ (by omega) (by omega)]; omega
  obtain ⟨s5, hs5⟩ : ∃ s5, s5 = s4 + s4 / 65536 := ⟨_, rfl⟩
  have e10 : IntKind.u64.wrap ((s4 : Int) + (s4 : Int) / 65536) = (s5 : Int) := by rw [W _ (by omega) (by omega)]; omega
  have e11 : IntKind.u64.wrap ((s5 : Int) + (s5 : Int) / 4294967296) = (s5 : Int) := by rw [W _ (by omega) (by omega)]; omega
  have e12 : IntKind.i64.wrap (s5 : Int) = (s5 : Int) := by rw [IntKind.wrap_i64]; omega
  have e13 : bits .and .i64 (s5 : Int) 127 = ((rk x 20 : Nat) : Int) := by
    rw [← a5, ← hs5]
    exact bits_mask .i64 63 (by decide) (fun n h1 h2 => by rw [IntKind.wrap_i64]; omega) 7 (by decide) (s5 : Int) (by omega) (by omega)
  clear W l1 l2 l3 l4 a1 a2 a3 a4 a5 l5 hx hs5 ht3
  go_enter Yba.func32, Yba.ntmps32
  go_wp2_with fail
  go_ret
  exact ⟨rfl, rfl⟩
end Go.Proofs.Ybulkexuo
