import Derived.Test.YbulkeyzgB2
import Derived.Laws.BytesArg
namespace Go.Proofs.Ybulkeyzg
open Go.RowKit

theorem info5 : (Yba.prog.info? 5).map (fun i => (i.zero, i.size, i.bytes)) = some (some (.int .u8 0), 1, 1) := by kernel_rfl

theorem empty_eq : ((⟨#[]⟩ : ByteArray).toList == (⟨#[]⟩ : ByteArray).toList) = true := by simp

set_option maxHeartbeats 1000000 in
theorem law_even (s tail : ByteArray) (wd md : Int) (w : World) (hs : s.size ≤ maxLen) (hm : 0 ≤ md) (hmd : md % 2 = 0) :
    Calls Yba.prog 4 #[.string s, .int .u8 wd, .string tail, .int .u8 md] w fun e w' => e = .returned (.bool true) ∧ Below w.heap.size w w' := by
  have hm1 : (md % 2 == 1) = false := by simp; omega
  clear hmd
  go_enter Yba.func4, Yba.ntmps4
  go_wp2_with fail
  refine (paren_any s _ hs).mono ?_
  rintro e w1 ⟨hA1, n1, rfl⟩
  rcases hA1 with ⟨n, hg, rfl⟩ | ⟨hno, rfl⟩
  · have HG : Hid (Good s n) := hg
    clear hg
    go_wp2_with fail
    refine (model_any s _ hs).mono ?_
    rintro e w2 ⟨hA2, n2, rfl⟩
    rcases hA2 with ⟨m, hg2, rfl⟩ | ⟨hno2, rfl⟩
    · obtain rfl := HG.out.eq hg2
      clear hg2
      go_wp2_with fail
      go_ret
      exact ⟨rfl, below_drewN (Below.refl _ _) _⟩
    · exact absurd HG.out (hno2 n)
  · have HN : Hid (∀ n, ¬ Good s n) := hno
    clear hno
    go_wp2_with fail
    refine (model_any s _ hs).mono ?_
    rintro e w2 ⟨hA2, n2, rfl⟩
    rcases hA2 with ⟨m, hg2, rfl⟩ | ⟨hno2, rfl⟩
    · exact absurd hg2 (HN.out m)
    · clear hno2
      go_wp2_with fail
      go_ret
      exact ⟨rfl, below_drewN (Below.refl _ _) _⟩

/-- the round's facts on the bytes that have been gathered -/
def Gath (w wr : World) (k j : Nat) : Prop := ∃ xs : List Int, xs.length = j + 1 ∧ wr.ownsRow w.heap.size 5 1 (.slice (some ⟨w.heap.size, 0, none⟩) (j + 1) (k + 2)) (j + 1) (xs.map (Value.int .u8))

theorem gath_step {w w' : World} {k j : Nat} {c : Int} {xs : List Int} (hx : xs.length = j + 1)
    (h : w'.ownsRow w.heap.size 5 1 (.slice (some ⟨w.heap.size, 0, none⟩) (j + 1 + 1) (k + 2)) (j + 1 + 1) (xs.map (Value.int .u8) ++ [.int .u8 c])) : Gath w w' k (j + 1) :=
  ⟨xs ++ [c], by simp [hx], by simpa using h⟩

theorem gath_cells {w wr : World} {k j : Nat} {xs : List Int} (hx : xs.length = j + 1)
    (h : wr.ownsRow w.heap.size 5 1 (.slice (some ⟨w.heap.size, 0, none⟩) (j + 1) (k + 2)) (j + 1) (xs.map (Value.int .u8))) :
    ∀ i, i < j + 1 → wr.cell? ⟨w.heap.size, 0 + i, none⟩ = some (.int .u8 (xs.getD i 0)) := by
  intro i hi
  have := h.cells (g := w.heap.size) rfl i (.int .u8 (xs.getD i 0)) (by simp [List.getD, List.getElem?_eq_getElem (show i < xs.length by omega)])
  have hadd : (⟨w.heap.size, 0, none⟩ : Addr).add i = ⟨w.heap.size, 0 + i, none⟩ := by unfold Addr.add; split <;> simp_all
  rwa [hadd] at this

set_option maxHeartbeats 1000000 in
theorem law_odd (s tail : ByteArray) (wd md : Int) (w : World) (hs : s.size ≤ maxLen) (ht : tail.size ≤ 140737488351232) (hm : 0 ≤ md) (hmd : md % 2 = 1) (hw : 0 ≤ wd ∧ wd ≤ 255) :
    Calls Yba.prog 4 #[.string s, .int .u8 wd, .string tail, .int .u8 md] w fun e w' => e = .returned (.bool true) ∧ Below w.heap.size w w' := by
  have hm1 : (md % 2 == 1) = true := by simp; omega
  clear hmd
  unfold maxLen at hs
  obtain ⟨i0, hi, hz0, hz1, hz2⟩ := info_parts info5
  obtain ⟨k, hk⟩ : ∃ k : Nat, (k : Int) = wd % 12 := ⟨(wd % 12).toNat, by omega⟩
  have hk11 : k ≤ 11 := by omega
  have hkw : wd % 12 = (k : Int) := hk.symm
  clear hk
  go_enter Yba.func4, Yba.ntmps4
  go_wp2_with (first
    | (at_make; refine wpList_make_own _ rfl _ _ 89 rfl w.heap.size 5 i0 (.int .u8 0) 1 Yba.underlying89 hi hz0 hz1 .i64 .i64 _ (k + 2) rfl rfl (by omega) (by rw [hz2]; omega) (by unfold maxLen; omega) (Nat.le_refl _) ?_; intro w1 hown1 hgr1)
    | (at_builtin; refine wpList_append_fits _ rfl (.tmp 30) (.tmp 31) 89 rfl w.heap.size 5 i0 1 Yba.underlying89 hi hz1 w.heap.size 0 (k + 2) [] rfl (hown1.alloc _) ⟨w1.heap.size, 0, none⟩ 1 1 [.int .u8 40] rfl rfl (cell_one_new _ _ _) (by simp [Value.oneCell']) (by omega) ?_; intro w2 hown2 hgr2))
  have hbel2 : Below w.heap.size w w2 := (((Below.refl w.heap.size w).grown hgr1 (Nat.le_refl _) (fun _ h => by cases h)).alloc hgr1.size _).grown hgr2 (by have := hgr1.size; simp; omega) (fun _ h => by cases h; exact Nat.le_refl _)
  have hG0 : Gath w w2 k 0 := ⟨[40], rfl, hown2⟩
  clear hown1 hgr1 hown2 hgr2
  go_loopw [11, 12] (fun v i wr => ∃ j : Nat, j ≤ k ∧ v = .slice (some ⟨w.heap.size, 0, none⟩) (j + 1) (k + 2) ∧ i = .int .i64 j ∧ Gath w wr k j ∧ Below w.heap.size w wr) (fun _ i _ => k - (intOf i).toNat)
  case atStart => exact ⟨0, by omega, rfl, rfl, hG0, hbel2⟩
  case round =>
    obtain ⟨j, hj, rfl, rfl, ⟨xs, hxl, hown⟩, hbel⟩ := hrel
    have hsz := hbel.size
    by_cases hjk : j < k
    · by_cases hjs : j < s.size
      · go_wp2_with (at_builtin; refine wpList_append_fits _ rfl (.tmp 47) (.tmp 49) 89 rfl w.heap.size 5 i0 1 Yba.underlying89 hi hz1 w.heap.size (j + 1) (k + 2) (xs.map (Value.int .u8)) rfl (hown.alloc _) ⟨wr.heap.size, 0, none⟩ 1 1 [.int .u8 _] rfl rfl (cell_one_new _ _ _) (by simp [Value.oneCell']) (by omega) ?_; intro w3 hown3 hgr3)
        have hG := gath_step hxl hown3
        have hb3 : Below w.heap.size w w3 := (hbel.alloc hsz _).grown hgr3 (by simp; omega) (fun _ h => by cases h; exact Nat.le_refl _)
        clear hown3 hgr3 hown
        go_wp2_with fail
        go_roundw
        case rel => exact ⟨j + 1, by omega, rfl, by go_num, hG, hb3⟩
        case measure => simp [intOf]; omega
      · go_wp2_with (at_builtin; refine wpList_append_fits _ rfl (.tmp 47) (.tmp 49) 89 rfl w.heap.size 5 i0 1 Yba.underlying89 hi hz1 w.heap.size (j + 1) (k + 2) (xs.map (Value.int .u8)) rfl (hown.alloc _) ⟨wr.heap.size, 0, none⟩ 1 1 [.int .u8 _] rfl rfl (cell_one_new _ _ _) (by simp [Value.oneCell']) (by omega) ?_; intro w3 hown3 hgr3)
        have hG := gath_step hxl hown3
        have hb3 : Below w.heap.size w w3 := (hbel.alloc hsz _).grown hgr3 (by simp; omega) (fun _ h => by cases h; exact Nat.le_refl _)
        clear hown3 hgr3 hown
        go_wp2_with fail
        go_roundw
        case rel => exact ⟨j + 1, by omega, rfl, by go_num, hG, hb3⟩
        case measure => simp [intOf]; omega
    · obtain rfl : j = k := by omega
      have hcv := run_convert_bytes_arg (P := Yba.prog) wr 89 5 Yba.underlying89 Yba.underlying5 w.heap.size 0 (j + 1) (j + 2) xs hxl (gath_cells hxl hown) 9 Yba.underlying9
      have hsz2 : (strOfNums xs).size = j + 1 := by rw [strOfNums_size, hxl]
      generalize strOfNums xs = st at hcv hsz2
      have hle : st.size + tail.size ≤ 9223372036854775807 := by omega
      have hin : (st ++ tail).size ≤ maxLen := by rw [ByteArray.size_append]; unfold maxLen; omega
      have HS : Hid (st.size = j + 1) := hsz2
      clear hsz2 hown hxl
      go_wp2_with fail
      refine (paren_any (st ++ tail) _ hin).mono ?_
      rintro e w1 ⟨hA1, n1, rfl⟩
      rcases hA1 with ⟨n, hg, rfl⟩ | ⟨hno, rfl⟩
      · have HG : Hid (Good (st ++ tail) n) := hg
        clear hg
        go_wp2_with fail
        refine (model_any (st ++ tail) _ hin).mono ?_
        rintro e w2 ⟨hA2, n2, rfl⟩
        rcases hA2 with ⟨m, hg2, rfl⟩ | ⟨hno2, rfl⟩
        · obtain rfl := HG.out.eq hg2
          clear hg2
          go_wp2_with fail
          go_ret
          exact ⟨rfl, below_drewN hbel _⟩
        · exact absurd HG.out (hno2 n)
      · have HN : Hid (∀ n, ¬ Good (st ++ tail) n) := hno
        clear hno
        go_wp2_with fail
        refine (model_any (st ++ tail) _ hin).mono ?_
        rintro e w2 ⟨hA2, n2, rfl⟩
        rcases hA2 with ⟨m, hg2, rfl⟩ | ⟨hno2, rfl⟩
        · exact absurd hg2 (HN.out m)
        · clear hno2
          go_wp2_with fail
          go_ret
          exact ⟨rfl, below_drewN hbel _⟩
end Go.Proofs.Ybulkeyzg
