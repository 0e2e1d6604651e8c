import Derived.Test.YbulkeyzgB1
namespace Go.Proofs.Ybulkeyzg
open Go.RowKit

theorem dg_lo {c : Int} (h : c < 48) : dg c = false := by unfold dg; simp; omega
theorem dg_hi {c : Int} (h : 57 < c) : dg c = false := by unfold dg; simp; omega
theorem dg_in {c : Int} (h : ¬ c < 48) (h2 : ¬ 57 < c) : dg c = true := by unfold dg; simp; omega

/-- s is '(', then n digits (one to nine), then ')' -/
def Good (s : ByteArray) (n : Nat) : Prop := byt s 0 = 40 ∧ 1 ≤ n ∧ n ≤ 9 ∧ (∀ k, 1 ≤ k → k ≤ n → dg (byt s k) = true) ∧ byt s (n + 1) = 41

theorem Good.lt {s : ByteArray} {n : Nat} (h : Good s n) : n + 1 < s.size := by
  by_cases hlt : n + 1 < s.size
  · exact hlt
  · have := h.2.2.2.2
    rw [byt_out (by omega)] at this
    omega

theorem Good.le {s : ByteArray} {n m : Nat} (h : Good s n) (g : Good s m) : m ≤ n := by
  by_cases hle : m ≤ n
  · exact hle
  · have h1 := g.2.2.2.1 (n + 1) (by omega) (by omega)
    rw [h.2.2.2.2] at h1
    exact absurd h1 (by decide)

theorem Good.eq {s : ByteArray} {n m : Nat} (h : Good s n) (g : Good s m) : n = m := Nat.le_antisymm (g.le h) (h.le g)

theorem byt_tail {s : ByteArray} (h : 0 < s.size) (k : Nat) : byt (s.extract 1 s.size) k = byt s (k + 1) := by
  have hsz : (s.extract 1 s.size).size = s.size - 1 := by simp
  by_cases hk : k + 1 < s.size
  · rw [byt_eq hk, byt_eq (by omega)]
    congr 2
    show (s.extract 1 s.size).data[k]'_ = s.data[k + 1]'_
    simp [ByteArray.data_extract, Nat.add_comm]
  · rw [byt_out (by omega), byt_out (by omega)]

theorem run_good {s : ByteArray} (h0 : byt s 0 = 40) {n : Nat} (hr : IsRun (s.extract 1 s.size) n) (h1 : 1 ≤ n) (h9 : n ≤ 9) (h2 : byt s (n + 1) = 41) : Good s n := by
  have hs : 0 < s.size := by
    by_cases h : 0 < s.size
    · exact h
    · rw [byt_out (by omega)] at h0; omega
  refine ⟨h0, h1, h9, fun k hk1 hk2 => ?_, h2⟩
  have := hr.2.1 (k - 1) (by omega)
  rw [byt_tail hs] at this
  rwa [show k - 1 + 1 = k by omega] at this

theorem good_run {s : ByteArray} {n m : Nat} (hr : IsRun (s.extract 1 s.size) n) (g : Good s m) : m = n := by
  have hs : 0 < s.size := by have := g.lt; omega
  have h1 : m ≤ n := by
    by_cases h : m ≤ n
    · exact h
    · have a := g.2.2.2.1 (n + 1) (by omega) (by omega)
      have b := hr.2.2
      rw [byt_tail hs] at b
      rw [a] at b; cases b
  have h2 : n ≤ m := by
    by_cases h : n ≤ m
    · exact h
    · have a := hr.2.1 m (by omega)
      rw [byt_tail hs, g.2.2.2.2] at a
      exact absurd a (by decide)
  omega

/-- what both functions answer -/
def Ans (s : ByteArray) (e : Ending) : Prop :=
  (∃ n, Good s n ∧ e = .returned (.tuple #[.string (s.extract 1 (n + 1)), .string (s.extract (n + 2) s.size), .bool true])) ∨
  ((∀ n, ¬ Good s n) ∧ e = .returned (.tuple #[.string ⟨#[]⟩, .string ⟨#[]⟩, .bool false]))

set_option maxHeartbeats 1000000 in
theorem paren_any (s : ByteArray) (w : World) (hs : s.size ≤ maxLen) :
    Calls Yba.prog 9 #[.string s] w fun e w' => Ans s e ∧ ∃ nq, w' = w.drewN nq := by
  have hs' := hs
  unfold maxLen at hs'
  by_cases h0 : byt s 0 = 40
  · have hpos : 0 < s.size := by
      by_cases h : 0 < s.size
      · exact h
      · rw [byt_out (by omega)] at h0; omega
    have hd0 : decide (byt s 0 = 40) = true := by simp [h0]
    have H0 : Hid (byt s 0 = 40) := h0
    clear h0
    go_enter Yba.func9, Yba.ntmps9
    go_wp2_with (first | (go_at_call 19; refine (prefix19 s _ hs).mono ?_; rintro e w' ⟨rfl, rfl⟩; rw [hd0]) | fail)
    refine (digits_any (s.extract 1 s.size) _ (by simp; unfold maxLen; omega)).mono ?_
    rintro e w' ⟨n, hr, rfl, rfl⟩
    have hn1 : n ≤ s.size - 1 := by have := hr.1; simpa using this
    by_cases hn0 : n = 0
    · subst hn0
      have Hno : Hid (∀ m, ¬ Good s m) := fun m g => by have := good_run hr g; have := g.2.1; omega
      go_wp2_with fail
      go_ret3
      exact ⟨Or.inr ⟨Hno.out, rfl⟩, 0, rfl⟩
    · have hz : ((n : Int) == 0) = false := by simp; omega
      by_cases h9 : 9 < n
      · have h9' : (9 : Int) < (n : Int) := by omega
        have Hno : Hid (∀ m, ¬ Good s m) := fun m g => by have := good_run hr g; have := g.2.2.1; omega
        go_wp2_with fail
        go_ret3
        exact ⟨Or.inr ⟨Hno.out, rfl⟩, 0, rfl⟩
      · have h9' : decide ((9 : Int) < (n : Int)) = false := by simp; omega
        by_cases hl : 1 + n = s.size
        · have hl' : ((1 : Int) + (n : Int) == (s.size : Int)) = true := by simp; omega
          have Hno : Hid (∀ m, ¬ Good s m) := fun m g => by have := good_run hr g; have := g.lt; omega
          clear hl
          go_wp2_with fail
          go_ret3
          exact ⟨Or.inr ⟨Hno.out, rfl⟩, 0, rfl⟩
        · have hl' : ((1 : Int) + (n : Int) == (s.size : Int)) = false := by simp; omega
          have hlt : 1 + n < s.size := by omega
          have hb := byt_eq hlt
          by_cases hc : byt s (1 + n) = 41
          · have Hg : Hid (Good s n) := run_good H0.out hr (by omega) (by omega) (by rw [Nat.add_comm]; exact hc)
            rw [hb] at hc
            have hc' : (((s[1 + n]'hlt).toNat : Int) != 41) = false := by simp [hc]
            clear hc hb hl
            have hi1 : (1 : Int) + n < s.size := by omega
            go_wp2_with fail
            go_quiet (fail)
            go_wp2_with fail
            go_ret3
            exact ⟨Or.inl ⟨n, Hg.out, by rw [Nat.add_comm n 1, Nat.add_comm n 2]; rfl⟩, _, rfl⟩
          · have Hno : Hid (∀ m, ¬ Good s m) := fun m g => by have h1 := good_run hr g; have h2 := g.2.2.2.2; rw [h1, Nat.add_comm] at h2; exact hc h2
            rw [hb] at hc
            have hc' : (((s[1 + n]'hlt).toNat : Int) != 41) = true := by simp; exact hc
            clear hc hb hl
            go_wp2_with fail
            go_ret3
            exact ⟨Or.inr ⟨Hno.out, rfl⟩, 0, rfl⟩
  · have hd0 : decide (byt s 0 = 40) = false := by simp [h0]
    have Hno : Hid (∀ m, ¬ Good s m) := fun m g => h0 g.1
    clear h0
    go_enter Yba.func9, Yba.ntmps9
    go_wp2_with (first | (go_at_call 19; refine (prefix19 s _ hs).mono ?_; rintro e w' ⟨rfl, rfl⟩; rw [hd0]) | fail)
    go_ret3
    exact ⟨Or.inr ⟨Hno.out, rfl⟩, 0, rfl⟩

/-- the signs 1 .. i-1 are digits -/
def allD (s : ByteArray) : Nat → Bool
  | 0 => true
  | i + 1 => allD s i && (i == 0 || dg (byt s i))
theorem allD_succ (s : ByteArray) {i : Nat} (h : 1 ≤ i) : allD s (i + 1) = (allD s i && dg (byt s i)) := by
  have : (i == 0) = false := by simp; omega
  rw [allD, this, Bool.false_or]
theorem allD_iff (s : ByteArray) (i : Nat) : allD s i = true ↔ ∀ k, 1 ≤ k → k < i → dg (byt s k) = true := by
  induction i with
  | zero => exact ⟨fun _ k _ h => by omega, fun _ => rfl⟩
  | succ i ih =>
    by_cases h1 : 1 ≤ i
    · rw [allD_succ s h1, Bool.and_eq_true, ih]
      constructor
      · rintro ⟨a, b⟩ k hk1 hk2
        by_cases e : k = i
        · subst e; exact b
        · exact a k hk1 (by omega)
      · intro a
        exact ⟨fun k hk1 hk2 => a k hk1 (by omega), a i h1 (by omega)⟩
    · obtain rfl : i = 0 := by omega
      exact ⟨fun _ k hk1 hk2 => by omega, fun _ => rfl⟩

set_option maxHeartbeats 1000000 in
theorem model_any (s : ByteArray) (w : World) (hs : s.size ≤ maxLen) :
    Calls Yba.prog 10 #[.string s] w fun e w' => Ans s e ∧ ∃ nq, w' = w.drewN nq := by
  unfold maxLen at hs
  go_enter Yba.func10, Yba.ntmps10
  go_wp2_with fail
  go_loop [5] (fun t => ∃ k : Nat, 1 ≤ k ∧ k ≤ 10 ∧ t = .int .i64 k ∧ ∀ m, m < k → ¬ Good s m) (fun t => 10 - (intOf t).toNat)
  case atStart => exact ⟨1, by omega, by omega, rfl, fun m hm g => by have := g.2.1; omega⟩
  case round =>
    obtain ⟨k, hk1, hk2, rfl, hno⟩ := hrel
    by_cases h9 : k ≤ 9
    · by_cases hsz : s.size < k + 2
      · have Hno : Hid (∀ m, ¬ Good s m) := fun m g => by
          by_cases hm : m < k
          · exact hno m hm g
          · have := g.lt; omega
        clear hno
        go_wp2_with fail
        go_ret3
        exact ⟨Or.inr ⟨Hno.out, rfl⟩, 0, rfl⟩
      · have hp0 : 0 < s.size := by omega
        have hb0 := byt_eq hp0
        by_cases h0 : byt s 0 = 40
        · have H0 : Hid (byt s 0 = 40) := h0
          rw [hb0] at h0
          have h0' : (((s[0]'hp0).toNat : Int) != 40) = false := by simp [h0]
          clear h0 hb0
          have HNo : Hid (∀ m, m < k → ¬ Good s m) := hno
          clear hno
          go_wp2_with fail
          go_loop [6, 7] (fun al i => ∃ j : Nat, 1 ≤ j ∧ j ≤ k + 1 ∧ i = .int .i64 j ∧ al = .bool (allD s j)) (fun _ i => k + 1 - (intOf i).toNat)
          case atStart => exact ⟨1, by omega, by omega, rfl, rfl⟩
          case round =>
            obtain ⟨j, hj1, hj2, rfl, rfl⟩ := hrel
            by_cases hjk : j ≤ k
            · have hjs : j < s.size := by omega
              have HA : Hid (allD s (j + 1) = (allD s j && dg (byt s j))) := allD_succ s hj1
              have Hb : Hid (byt s j = ((s[j]'hjs).toNat : Int)) := byt_eq hjs
              generalize hal : allD s j = al at HA
              clear hal
              by_cases hlo : ((s[j]'hjs).toNat : Int) < 48
              · go_wp2_with fail
                go_round
                case rel => exact ⟨j + 1, by omega, by omega, by go_num, by rw [HA.out, Hb.out, dg_lo hlo, Bool.and_false]⟩
                case measure => simp [intOf]; omega
              · by_cases hhi : 57 < ((s[j]'hjs).toNat : Int)
                · go_wp2_with fail
                  go_round
                  case rel => exact ⟨j + 1, by omega, by omega, by go_num, by rw [HA.out, Hb.out, dg_hi hhi, Bool.and_false]⟩
                  case measure => simp [intOf]; omega
                · go_wp2_with fail
                  go_round
                  case rel => exact ⟨j + 1, by omega, by omega, by go_num, by rw [HA.out, Hb.out, dg_in hlo hhi, Bool.and_true]⟩
                  case measure => simp [intOf]; omega
            · obtain rfl : j = k + 1 := by omega
              by_cases hall : allD s (k + 1) = true
              · rw [hall]
                have Hall : Hid (allD s (k + 1) = true) := hall
                clear hall
                have hk1s : k + 1 < s.size := by omega
                have hb := byt_eq hk1s
                by_cases hc : byt s (k + 1) = 41
                · have Hg : Hid (Good s k) := ⟨H0.out, hk1, h9, fun m hm1 hm2 => (allD_iff s (k + 1)).1 Hall.out m hm1 (by omega), hc⟩
                  rw [hb] at hc
                  have hc' : (((s[k + 1]'hk1s).toNat : Int) == 41) = true := by simp [hc]
                  clear hc hb
                  have hi1 : (k : Int) + 1 < s.size := by omega
                  go_wp2_with fail
                  go_quiet (fail)
                  go_wp2_with fail
                  go_ret3
                  exact ⟨Or.inl ⟨k, Hg.out, rfl⟩, _, rfl⟩
                · have HN2 : Hid (∀ m, m < k + 1 → ¬ Good s m) := fun m hm g => by
                    by_cases hmk : m < k
                    · exact HNo.out m hmk g
                    · obtain rfl : m = k := by omega
                      exact hc g.2.2.2.2
                  rw [hb] at hc
                  have hc' : (((s[k + 1]'hk1s).toNat : Int) == 41) = false := by simp; exact hc
                  clear hc hb
                  go_wp2_with fail
                  go_round
                  case rel => exact ⟨k + 1, by omega, by omega, by go_num, HN2.out⟩
                  case measure => simp [intOf]; omega
              · have Hno : Hid (∀ m, ¬ Good s m) := fun m g => by
                  by_cases hm : m < k
                  · exact HNo.out m hm g
                  · exact hall ((allD_iff s (k + 1)).2 fun i hi1 hi2 => g.2.2.2.1 i hi1 (by omega))
                rw [show allD s (k + 1) = false by simpa using hall]
                clear hall
                go_wp2_with fail
                go_ret3
                exact ⟨Or.inr ⟨Hno.out, rfl⟩, 0, rfl⟩
        · have Hno : Hid (∀ m, ¬ Good s m) := fun m g => h0 g.1
          rw [hb0] at h0
          have h0' : (((s[0]'hp0).toNat : Int) != 40) = true := by simp; exact h0
          clear h0 hb0 hno
          go_wp2_with fail
          go_ret3
          exact ⟨Or.inr ⟨Hno.out, rfl⟩, 0, rfl⟩
    · have Hno : Hid (∀ m, ¬ Good s m) := fun m g => hno m (by have := g.2.2.1; omega) g
      clear hno
      go_wp2_with fail
      go_ret3
      exact ⟨Or.inr ⟨Hno.out, rfl⟩, 0, rfl⟩
end Go.Proofs.Ybulkeyzg
