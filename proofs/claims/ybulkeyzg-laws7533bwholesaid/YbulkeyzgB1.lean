import Derived.Test.YbulkeyzgProg
import Derived.WalkKit
import Derived.WalkSpells
import Derived.WalkLawsBesides
import Derived.Deep.QuietTactic
import Derived.BigQuiet
namespace Go.Proofs.Ybulkeyzg
open Go.RowKit

/-- byte k of s, or -1 behind its end -/
def byt (s : ByteArray) (k : Nat) : Int := if h : k < s.size then ((s[k]'h).toNat : Int) else -1
theorem byt_eq {s : ByteArray} {k : Nat} (h : k < s.size) : byt s k = ((s[k]'h).toNat : Int) := by unfold byt; rw [dif_pos h]
theorem byt_out {s : ByteArray} {k : Nat} (h : s.size ≤ k) : byt s k = -1 := by unfold byt; rw [dif_neg (by omega)]

/-- a digit's sign -/
def dg (c : Int) : Bool := decide (48 ≤ c ∧ c ≤ 57)

theorem ret_bool {a b : Bool} (h : a = b) : Ending.returned (.bool a) = .returned (.bool b) := by rw [h]
theorem extract1 {s : ByteArray} (h : 0 < s.size) : ((s.extract 0 1).toList == [40]) = decide (byt s 0 = 40) := by
  have e : (s.extract 0 1).toList = [s[0]'h] := by
    rw [ByteArray.toList_eq]
    apply List.ext_getElem?
    intro i
    match i with
    | 0 =>
      have : 0 < s.data.size := h
      simp only [ByteArray.data_extract, List.getElem?_cons_zero]
      simp
      rw [Array.getElem?_eq_getElem this]; rfl
    | i + 1 => simp [ByteArray.data_extract]; omega
  rw [e, byt_eq h]
  have : (s[0]'h == 40) = decide (((s[0]'h).toNat : Int) = 40) := by
    rw [Bool.eq_iff_iff]
    simp only [beq_iff_eq, decide_eq_true_eq]
    constructor
    · intro h; rw [h]; rfl
    · intro h; apply UInt8.toNat.inj; have : UInt8.toNat 40 = 40 := rfl; omega
  rw [← this]
  simp

theorem isDigit_any (c : Int) (w : World) : Calls Yba.prog 29 #[.int .u8 c] w fun e w' => e = .returned (.bool (dg c)) ∧ w' = w := by
  by_cases h1 : 48 ≤ c
  · by_cases h2 : c ≤ 57
    · go_enter Yba.func29, Yba.ntmps29
      go_wp2_with fail
      go_ret
      exact ⟨by simp [dg, h1, h2], rfl⟩
    · go_enter Yba.func29, Yba.ntmps29
      go_wp2_with fail
      go_ret
      exact ⟨ret_bool (by unfold dg; simp [h1]; omega), rfl⟩
  · go_enter Yba.func29, Yba.ntmps29
    go_wp2_with fail
    go_ret
    exact ⟨ret_bool (by unfold dg; simp; omega), rfl⟩

/-- how many digits s begins with -/
def IsRun (s : ByteArray) (n : Nat) : Prop := n ≤ s.size ∧ (∀ k, k < n → dg (byt s k) = true) ∧ dg (byt s n) = false

set_option maxHeartbeats 400000 in
theorem digits_any (s : ByteArray) (w : World) (hs : s.size ≤ maxLen) :
    Calls Yba.prog 20 #[.string s] w fun e w' => ∃ n : Nat, IsRun s n ∧ e = .returned (.int .i64 n) ∧ w' = w := by
  unfold maxLen at hs
  go_enter Yba.func20, Yba.ntmps20
  go_wp2_with fail
  go_loop [3] (fun i => ∃ k : Nat, k ≤ s.size ∧ i = .int .i64 k ∧ ∀ j, j < k → dg (byt s j) = true) (fun i => s.size - (intOf i).toNat)
  case atStart => exact ⟨0, Nat.zero_le _, rfl, fun j hj => by omega⟩
  case round =>
    obtain ⟨k, hk, rfl, hrun⟩ := hrel
    by_cases hlt : k < s.size
    · have hb := byt_eq hlt
      by_cases hd : dg (byt s k) = true
      · have Hm : Hid (∀ j, j < k + 1 → dg (byt s j) = true) := fun j hj => by
          by_cases hjk : j < k
          · exact hrun j hjk
          · obtain rfl : j = k := by omega
            exact hd
        rw [hb] at hd
        clear hrun hb
        go_wp2_with (go_at_call 29; refine (isDigit_any _ _).mono ?_; rintro e w' ⟨rfl, rfl⟩)
        go_round
        case rel => exact ⟨k + 1, by omega, by go_num, Hm.out⟩
        case measure => simp [intOf]; omega
      · have Hm : Hid (IsRun s k) := ⟨hk, hrun, by simpa using hd⟩
        rw [hb] at hd
        have hd' : dg ((s[k]'hlt).toNat : Int) = false := by simpa using hd
        clear hrun hb hd
        go_wp2_with (go_at_call 29; refine (isDigit_any _ _).mono ?_; rintro e w' ⟨rfl, rfl⟩)
        go_ret
        exact ⟨k, Hm.out, rfl, rfl⟩
    · obtain rfl : k = s.size := by omega
      have Hm : Hid (IsRun s s.size) := ⟨hk, hrun, by rw [byt_out (Nat.le_refl _)]; rfl⟩
      clear hrun
      go_wp2_with (go_at_call 29; refine (isDigit_any _ _).mono ?_; rintro e w' ⟨rfl, rfl⟩)
      go_ret
      exact ⟨s.size, Hm.out, rfl, rfl⟩

set_option maxHeartbeats 400000 in
theorem prefix28 (s : ByteArray) (w : World) (hs : s.size ≤ maxLen) :
    Calls Yba.prog 28 #[.string s, .string ⟨#[40]⟩] w fun e w' => e = .returned (.bool (decide (byt s 0 = 40))) ∧ w' = w := by
  unfold maxLen at hs
  by_cases h : 0 < s.size
  · go_enter Yba.func28, Yba.ntmps28
    go_wp2_with fail
    go_ret
    exact ⟨ret_bool (extract1 h), rfl⟩
  · go_enter Yba.func28, Yba.ntmps28
    go_wp2_with fail
    go_ret
    exact ⟨ret_bool (by rw [byt_out (by omega)]; rfl), rfl⟩

theorem prefix19 (s : ByteArray) (w : World) (hs : s.size ≤ maxLen) :
    Calls Yba.prog 19 #[.string s, .string ⟨#[40]⟩] w fun e w' => e = .returned (.bool (decide (byt s 0 = 40))) ∧ w' = w := by
  go_enter Yba.func19, Yba.ntmps19
  go_wp2_with fail
  refine (prefix28 s _ hs).mono ?_
  rintro e w' ⟨rfl, rfl⟩
  generalize hr : decide (byt s 0 = 40) = r
  have Hr : Hid (decide (byt s 0 = 40) = r) := hr
  clear hr
  go_wp2_with fail
  go_ret
  exact ⟨ret_bool Hr.out.symm, rfl⟩
end Go.Proofs.Ybulkeyzg
