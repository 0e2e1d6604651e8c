import Derived.Test.YbulkexuoLaws
import Derived.Deep.Light
namespace Go.Proofs.Ybulkexuo
open Go.RowKit

/-- the process that 'cur' stands at behind k steps -/
def curAt (base : Int) (G : Nat → Int) : Nat → Int
  | 0 => base
  | k + 1 => if 2147483647 < curAt base G k + G k % 4 then 2147483647 else curAt base G k + G k % 4

theorem curAt_bd {base : Int} {G : Nat → Int} (h : -2147483648 ≤ base ∧ base ≤ 2147483647) (k : Nat) : -2147483648 ≤ curAt base G k ∧ curAt base G k ≤ 2147483647 := by
  induction k with
  | zero => exact h
  | succ k ih => unfold curAt; split <;> omega

theorem curAt_step {base : Int} {G : Nat → Int} (h : -2147483648 ≤ base ∧ base ≤ 2147483647) (k : Nat) : curAt base G k ≤ curAt base G (k + 1) := by
  have := curAt_bd (G := G) h k
  rw [curAt]
  split
  · omega
  · have : 0 ≤ G k % 4 := by omega
    omega

theorem curAt_mono {base : Int} {G : Nat → Int} (h : -2147483648 ≤ base ∧ base ≤ 2147483647) {i j : Nat} (hij : i ≤ j) : curAt base G i ≤ curAt base G j := by
  induction j with
  | zero => obtain rfl : i = 0 := by omega
            exact Int.le_refl _
  | succ j ih =>
    by_cases e : i = j + 1
    · subst e; exact Int.le_refl _
    · exact Int.le_trans (ih (by omega)) (curAt_step h j)

/-- what the level's row holds behind k rounds -/
def lvl (P C : Nat → Int) (k i : Nat) : Value :=
  if i / 2 < k then (if i % 2 = 0 then .int .i32 (P (i / 2)) else .int .i32 (C (i / 2))) else .int .i32 0

theorem lvl_zero (P C : Nat → Int) (n i : Nat) (hi : i < n * 2) : (madeCells #[.int .i32 0, .int .i32 0] (n * 2))[i]? = some (lvl P C 0 i) := by
  simp [madeCells, hi, lvl]
  have : i % 2 = 0 ∨ i % 2 = 1 := by omega
  rcases this with h | h <;> simp [h]

theorem lvl_row0 (w : World) (n : Nat) (P C : Nat → Int) : (w.alloc (Obj.cells (madeCells #[Value.int IntKind.i32 0, Value.int IntKind.i32 0] (n * 2)) 38)).rowIs w.heap.size 38 (n * 2) (lvl P C 0) :=
  ⟨_, Go.Deep.blk_alloc_new _ _, size_madeCells _ _, fun i hi => lvl_zero P C n i hi⟩

theorem lvl_step {w : World} {B n : Nat} {P C : Nat → Int} {k : Nat} (h : w.rowIs B 38 (n * 2) (lvl P C k)) {x : Int} (hx : x = P k) :
    ((w.setCell ⟨B, k * 2, none⟩ (.int .i32 x)).setCell ⟨B, k * 2 + 1, none⟩ (.int .i32 (C k))).rowIs B 38 (n * 2) (lvl P C (k + 1)) := by
  subst hx
  refine ((h.set (k * 2) (.int .i32 (P k))).set (k * 2 + 1) (.int .i32 (C k))).congr fun i hi => ?_
  by_cases e1 : i = k * 2 + 1
  · subst e1
    simp [lvl, show (k * 2 + 1) / 2 = k by omega, show (k * 2 + 1) % 2 = 1 by omega]
  · by_cases e2 : i = k * 2
    · subst e2
      simp [lvl]
    · simp only [e1, e2, if_false]
      unfold lvl
      by_cases h3 : i / 2 < k
      · rw [if_pos h3, if_pos (show i / 2 < k + 1 by omega)]
      · rw [if_neg h3, if_neg (show ¬ i / 2 < k + 1 by omega)]

theorem lvl_one (P C : Nat → Int) (k i : Nat) : (lvl P C k i).oneCell' = true := by
  unfold lvl; split
  · split <;> rfl
  · rfl

theorem lvl_even (P C : Nat → Int) {n k : Nat} (hk : k < n) : lvl P C n (k * 2) = .int .i32 (P k) := by simp [lvl, hk]
theorem lvl_odd (P C : Nat → Int) {n k : Nat} (hk : k < n) : lvl P C n (k * 2 + 1) = .int .i32 (C k) := by simp [lvl, show (k * 2 + 1) / 2 = k by omega, hk]

theorem rowIs_below {w w' : World} {b n : Nat} {t : TypeId} {f : Nat → Value} (h : w.rowIs b t n f) (hw : Below w.heap.size w w') : w'.rowIs b t n f := h.of_block (hw.block _ h.lt)

theorem lvl_entries {w : World} {B n : Nat} {P C : Nat → Int} (h : w.rowIs B 38 (n * 2) (lvl P C n)) : Entries w B 0 n P C := by
  intro k hk
  have h1 := h.cell (i := k * 2) (by omega)
  have h2 := h.cell (i := k * 2 + 1) (by omega)
  rw [show lvl P C n (k * 2) = .int .i32 (P k) by simp [lvl, hk]] at h1
  rw [show lvl P C n (k * 2 + 1) = .int .i32 (C k) by simp [lvl, show (k * 2 + 1) / 2 = k by omega, hk]] at h2
  exact ⟨by rw [Nat.zero_add]; exact h1, by rw [Nat.zero_add]; exact h2⟩

theorem add_lit0 (B j : Nat) : (⟨B, 0, none⟩ : Addr).add j = ⟨B, j, none⟩ := by unfold Addr.add; split <;> simp_all

/-- the level is copied into a new row behind it -/
theorem copy_level {w wr : World} {B n : Nat} {f : Nat → Value} (h : wr.rowIs B 38 (n * 2) f) (h1 : ∀ i, i < n * 2 → (f i).oneCell' = true) (hbel : Below B w wr) (_hB : B ≤ w.heap.size) :
    ∃ W2, (∀ ty, (Builtin.copy_ #[31, 31] ty #[.slice (some ⟨wr.heap.size, 0, none⟩) n n, .slice (some ⟨B, 0, none⟩) n n]).run Yba.prog (wr.alloc (Obj.cells (madeCells #[Value.int IntKind.i32 0, Value.int IntKind.i32 0] (n * 2)) 38)) = .ok (goInt n) W2) ∧
      W2.rowIs B 38 (n * 2) f ∧ W2.rowIs wr.heap.size 38 (n * 2) f ∧ Below B w W2 := by
  have hlt := h.lt
  have hal := h.alloc (Obj.cells (madeCells #[Value.int IntKind.i32 0, Value.int IntKind.i32 0] (n * 2)) 38)
  obtain ⟨c, hc1, hc2, hc3⟩ := hal
  have hnew := Go.Deep.blk_alloc_new wr (Obj.cells (madeCells #[Value.int IntKind.i32 0, Value.int IntKind.i32 0] (n * 2)) 38)
  have hrun := fun ty => run_copyK (P := Yba.prog) _ 31 31 ty 38 wr.heap.size 0 n n ⟨B, 0, none⟩ n n _ 38 c.toList 2 Yba.underlying31 (by kernel_rfl) hnew (by simp [hc2]) (fun j v hv => by
      rw [add_lit0]
      simpa [World.cell?, hc1] using hv) (by simp [hc2, size_madeCells]) (fun v hv => by
      obtain ⟨j, hj, hjv⟩ := List.getElem_of_mem hv
      have hj' : j < n * 2 := by simpa [hc2] using hj
      have := hc3 j hj'
      rw [Array.getElem?_eq_getElem (by omega)] at this
      simp only [Array.getElem_toList] at hjv
      rw [hjv] at this
      rw [Option.some.inj this]
      exact h1 j hj')
  simp only [Nat.min_def, Nat.le_refl, if_true] at hrun
  refine ⟨_, hrun, ?_, ?_, ?_⟩
  · exact ⟨c, by rw [setRow_other _ _ _ _ (by omega)]; exact hc1, hc2, hc3⟩
  · refine rowIs_setRow hnew _ f (by simp [hc2, size_madeCells]) fun i hi => ?_
    have : (madeCells #[Value.int IntKind.i32 0, Value.int IntKind.i32 0] (n * 2)).toList.drop (0 + c.toList.length) = [] := by
      apply List.drop_eq_nil_of_le; simp [hc2, size_madeCells]
    rw [this]
    simpa using hc3 i hi
  · exact (hbel.alloc (by have := hbel.size; omega) _).trans ⟨rfl, rfl, rfl, by simp [World.setRow], fun k hk => setRow_other _ _ _ _ (by omega)⟩

theorem find_any (b n c : Nat) (P C : Nat → Int) (p : Int) (w : World) (hn : n ≤ 1048576) (hb : b < w.heap.size) (hE : Entries w b 0 n P C)
    (hS : ∀ i j, i ≤ j → j < n → P i ≤ P j) :
    Calls Yba.prog 16 #[.slice (some ⟨b, 0, none⟩) n c, .int .i32 p] w fun e w' =>
      e = .returned (.tuple #[.int .i32 (fnd P C p n).1, .bool (fnd P C p n).2]) ∧ Below w.heap.size w w' := by
  by_cases h16 : n ≤ 16
  · exact find_short _ n c P C p w h16 (fun _ => ⟨b, 0, rfl, hb, hE⟩) hS
  · exact find_long b 0 n c P C p w hn (by omega) hb hE hS

set_option maxHeartbeats 1000000 in
theorem law_some (base p : Int) (b off n c : Nat) (G C : Nat → Int) (w : World) (hbase : -2147483648 ≤ base ∧ base ≤ 2147483647) (hn : n ≤ 1048576) (hn0 : 0 < n)
    (hb : b < w.heap.size) (hG : ∀ k, k < n → w.cell? ⟨b, off + k * 2, none⟩ = some (.int .u8 (G k)) ∧ w.cell? ⟨b, off + k * 2 + 1, none⟩ = some (.int .i32 (C k)) ∧ 0 ≤ G k ∧ G k ≤ 255) :
    Calls Yba.prog 4 #[.int .i32 base, .slice (some ⟨b, off, none⟩) n c, .int .i32 p] w fun e w' =>
      e = .returned (.bool true) ∧ Below w.heap.size w w' := by
  have hnil := fun w => run_neq_slice_nil_any (P := Yba.prog) w 75 77 (some ⟨b, off, none⟩) n c 0 0 Yba.underlying75
  have hmk := run_makeK (P := Yba.prog) 31 38 _ 2 8 Yba.underlying31 info38 n (by omega) (by omega)
  have hbig : decide ((1048576 : Int) < (n : Int)) = false := by simp; omega
  obtain ⟨P, hP⟩ : ∃ P, P = fun k => curAt base G (k + 1) := ⟨_, rfl⟩
  have HP : Hid (P = fun k => curAt base G (k + 1)) := hP
  clear hP
  have hrow0 := lvl_row0 w n P C
  go_enter Yba.func4, Yba.ntmps4
  go_wp2_with fail
  go_loopw [8, 9] (fun cu i wr => ∃ k : Nat, k ≤ n ∧ cu = .int .i64 (curAt base G k) ∧ i = .int .i64 k ∧ wr.rowIs w.heap.size 38 (n * 2) (lvl P C k) ∧ Below w.heap.size w wr)
    (fun _ i _ => n - (intOf i).toNat)
  case atStart => exact ⟨0, by omega, rfl, rfl, hrow0, (Below.refl _ _).alloc (Nat.le_refl _) _⟩
  case round =>
    obtain ⟨k, hk, rfl, rfl, hrow, hbel⟩ := hrel
    by_cases hlt : k < n
    · obtain ⟨g1, g2, g3, g4⟩ := hG k hlt
      have c1 := (hbel.cell (p := ⟨b, off + k * 2, none⟩) hb).trans g1
      have c2 := (hbel.cell (p := ⟨b, off + k * 2 + 1, none⟩) hb).trans g2
      have d1 := hrow.cell (i := k * 2) (by omega)
      have d2 := hrow.cell (i := k * 2 + 1) (by omega)
      have f1 := hrow.frozen (k * 2)
      have f2 := hrow.frozen (k * 2 + 1)
      obtain ⟨b1, b2⟩ := curAt_bd (G := G) hbase k
      by_cases hcl : 2147483647 < curAt base G k + G k % 4
      · have HC : Hid (curAt base G (k + 1) = 2147483647) := by rw [curAt]; exact if_pos hcl
        go_wp2_with fail
        go_roundw
        case rel => exact ⟨k + 1, by omega, by rw [HC.out], by go_num, lvl_step hrow (by rw [HP.out]; exact HC.out.symm), (hbel.setCell (Nat.le_refl _) _).setCell (Nat.le_refl _) _⟩
        case measure => simp [intOf]; omega
      · have HC : Hid (curAt base G (k + 1) = curAt base G k + G k % 4) := by rw [curAt]; exact if_neg hcl
        go_wp2_with fail
        go_roundw
        case rel => exact ⟨k + 1, by omega, by rw [HC.out], by go_num, lvl_step hrow (by rw [HP.out]; exact HC.out.symm), (hbel.setCell (Nat.le_refl _) _).setCell (Nat.le_refl _) _⟩
        case measure => simp [intOf]; omega
    · obtain rfl : n = k := by omega
      obtain ⟨W2, hcopy, hrowL, hrowB, hbel2⟩ := copy_level hrow (fun i _ => lvl_one P C n i) hbel (Nat.le_refl _)
      have hEn := lvl_entries hrowL
      have hS : ∀ i j, i ≤ j → j < n → P i ≤ P j := fun i j hij _ => by rw [HP.out]; exact curAt_mono hbase (by omega)
      have hlB := hrowL.lt
      go_wp2_with fail
      go_loop [11, 12, 13] (fun wn ok i => ∃ k : Nat, k ≤ n ∧ wn = .int .i32 0 ∧ ok = .bool false ∧ i = .int .i64 k ∧ ∀ j, j < k → P j ≠ p) (fun _ _ i => n - (intOf i).toNat)
      case atStart => exact ⟨0, by omega, rfl, rfl, rfl, fun j hj => by omega⟩
      case round =>
        obtain ⟨k, hk, rfl, rfl, rfl, hmiss⟩ := hrel
        by_cases hkn : k < n
        · obtain ⟨c1, c2⟩ := hEn k hkn
          simp only [Nat.zero_add] at c1 c2
          by_cases heq : P k = p
          · have hq : (P k == p) = true := by simp [heq]
            have Hf : Hid (fnd P C p n = (C k, true)) := fnd_hit hkn heq hmiss
            clear heq hmiss
            go_wp2_with fail
            refine (find_any w.heap.size n n P C p W2 hn hlB hEn hS).mono ?_
            rintro e W3 ⟨rfl, hbel3⟩
            rw [Hf.out]
            have r1 := rowIs_below hrowL hbel3
            have r2 := rowIs_below hrowB hbel3
            have hbel4 := hbel2.trans (hbel3.mono hbel2.size)
            clear hrowL hrowB hbel2 hbel3 hEn hrow hcopy hmk hnil
            go_wp2_with fail
            go_loopw [16] (fun i wr => ∃ k : Nat, k ≤ n ∧ i = .int .i64 k ∧ ∃ nq, wr = W3.drewN nq) (fun i _ => n - (intOf i).toNat)
            case atStart => exact ⟨0, by omega, rfl, 0, rfl⟩
            case round =>
              obtain ⟨m, hm, rfl, nq, rfl⟩ := hrel
              by_cases hmn : m < n
              · have hmI : (m : Int) < (n : Int) := by omega
                have q1 := r1.cell (i := m * 2) (by omega)
                have q2 := r1.cell (i := m * 2 + 1) (by omega)
                have q3 := r2.cell (i := m * 2) (by omega)
                have q4 := r2.cell (i := m * 2 + 1) (by omega)
                rw [lvl_even P C hmn] at q1 q3
                rw [lvl_odd P C hmn] at q2 q4
                have hne := neq38 (P m) (C m) (P m) (C m)
                simp only [beq_self_eq_true, Bool.and_true, Bool.not_true] at hne
                go_wp2_with fail
                go_quiet (fail)
                go_wp2_with fail
                go_roundw
                case rel => exact ⟨m + 1, by omega, by go_num, _, rfl⟩
                case measure => simp [intOf]; omega
              · go_wp2_with fail
                go_ret
                exact ⟨rfl, below_drewN hbel4 _⟩
          · have hq : (P k == p) = false := by simp [heq]
            have Hm : Hid (∀ j, j < k + 1 → P j ≠ p) := fun j hj => by
              by_cases hjk : j < k
              · exact hmiss j hjk
              · obtain rfl : j = k := by omega
                exact heq
            clear heq hmiss
            go_wp2_with fail
            go_round
            case rel => exact ⟨k + 1, by omega, rfl, rfl, by go_num, Hm.out⟩
            case measure => simp [intOf]; omega
        · have Hf : Hid (fnd P C p n = (0, false)) := fnd_miss (fun j hj => hmiss j (by omega))
          clear hmiss
          go_wp2_with fail
          refine (find_any w.heap.size n n P C p W2 hn hlB hEn hS).mono ?_
          rintro e W3 ⟨rfl, hbel3⟩
          rw [Hf.out]
          have r1 := rowIs_below hrowL hbel3
          have r2 := rowIs_below hrowB hbel3
          have hbel4 := hbel2.trans (hbel3.mono hbel2.size)
          clear hrowL hrowB hbel2 hbel3 hEn hrow hcopy hmk hnil
          go_wp2_with fail
          go_loopw [16] (fun i wr => ∃ k : Nat, k ≤ n ∧ i = .int .i64 k ∧ ∃ nq, wr = W3.drewN nq) (fun i _ => n - (intOf i).toNat)
          case atStart => exact ⟨0, by omega, rfl, 0, rfl⟩
          case round =>
            obtain ⟨m, hm, rfl, nq, rfl⟩ := hrel
            by_cases hmn : m < n
            · have hmI : (m : Int) < (n : Int) := by omega
              have q1 := r1.cell (i := m * 2) (by omega)
              have q2 := r1.cell (i := m * 2 + 1) (by omega)
              have q3 := r2.cell (i := m * 2) (by omega)
              have q4 := r2.cell (i := m * 2 + 1) (by omega)
              rw [lvl_even P C hmn] at q1 q3
              rw [lvl_odd P C hmn] at q2 q4
              have hne := neq38 (P m) (C m) (P m) (C m)
              simp only [beq_self_eq_true, Bool.and_true, Bool.not_true] at hne
              go_wp2_with fail
              go_quiet (fail)
              go_wp2_with fail
              go_roundw
              case rel => exact ⟨m + 1, by omega, by go_num, _, rfl⟩
              case measure => simp [intOf]; omega
            · go_wp2_with fail
              go_ret
              exact ⟨rfl, below_drewN hbel4 _⟩
end Go.Proofs.Ybulkexuo
