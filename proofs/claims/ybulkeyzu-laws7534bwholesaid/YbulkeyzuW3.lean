import Derived.Test.YbulkeyzuF
import Derived.Test.YbulkeyzuW2
import Derived.Test.YbulkeyzuM
import Derived.Deep.DeepCutAuto
import Derived.Deep.CutBlock
import Derived.Deep.RegionHeld3
import Derived.Deep.RegionLaw
import Derived.Deep.AppendLies
namespace Go.Proofs.Ybulkeyzu
open Go.RowKit

theorem info3 : (Yba.prog.info? 3).map (fun i => (i.zero, i.size, i.bytes)) = some (some (.int .i64 0), 1, 8) := by kernel_rfl
theorem info4 : (Yba.prog.info? 4).map (fun i => (i.zero, i.size, i.bytes)) = some (some (.bool false), 1, 1) := by kernel_rfl
theorem info23 : (Yba.prog.info? 23).map (fun i => (i.zero, i.size, i.bytes)) = some (some (.slice none 0 0), 1, 24) := by kernel_rfl
theorem info25 : (Yba.prog.info? 25).map (fun i => (i.zero, i.size, i.bytes)) = some (some (.slice none 0 0), 1, 24) := by kernel_rfl
theorem info31 : (Yba.prog.info? 31).map (fun i => (i.zero, i.size, i.bytes)) = some (some (.pointer none), 1, 8) := by kernel_rfl

theorem info3' : ∃ i : TypeInfo, Yba.prog.info? 3 = some i ∧ i.zero = some (.int .i64 0) ∧ i.size = 1 ∧ i.bytes = 8 := by
  obtain ⟨i, hi, h⟩ := Option.map_eq_some_iff.1 info3
  simp only [Prod.mk.injEq] at h
  exact ⟨i, hi, h.1, h.2.1, h.2.2⟩

/-- 'append(ifs[i], z)' at its step -/
theorem step_app {ops : Array Oper} {o : Oper} {a : Act} {K : Act → World → Prop} {Q : Exit → Act → World → Prop} {E : Prop} (hgd : o.guard = none)
    (ho : o.op = .call { callee := .builtin .append, args := #[.tmp 116, .tmp 125], argTypes := #[23, 23] }) (wx wa : World) (base : Nat) (v : Value) (q : Nat) (xs : List Value) (z : Int) (hwa : wa = wx.drew.alloc (.cells #[.int .i64 z] 3))
    (hown : wx.ownsRow base 3 1 v q xs) (hq : q < 11) (hbase : base ≤ wx.heap.size) (hs : a.eval (.tmp 116) = v) (hx : a.eval (.tmp 125) = .slice (some ⟨wx.heap.size, 0, none⟩) 1 1)
    (h : ∀ g cap w', w'.ownsRow base 3 1 (.slice (some ⟨g, 0, none⟩) (q + 1) cap) (q + 1) (xs ++ [.int .i64 z]) → (wx.drew.alloc (.cells #[.int .i64 z] 3)).grownBy w' v.ownBlock → K (a.put o.dst (.slice (some ⟨g, 0, none⟩) (q + 1) cap)) w') :
    if Region.wanted o (yielded ops a.tmps) = true then Oper.wp Yba.prog o a wa K Q else E := by
  subst hwa
  obtain ⟨i, hi, hz, h1, h8⟩ := info3'
  refine step_append_lies (P := Yba.prog) (wx.drew.alloc (.cells #[.int .i64 z] 3)) hgd (.tmp 116) (.tmp 125) 23 ho base 3 i (.int .i64 0) 1 8 Yba.underlying23 hi hz h1 h8 rfl (by decide) v q xs hs (hown.drew.alloc _) ⟨wx.heap.size, 0, none⟩ 1 1 [.int .i64 z] hx rfl ?_ (by simp [Value.oneCell']) (by decide) (by unfold maxLen; omega) (by omega) (by show base ≤ (wx.drew.heap.push _).size; simp; omega) (wx.heap.size + 1) (by simp) ?_
  · exact World.news_of_block (w := wx.drew.alloc (.cells #[.int .i64 z] 3)) (B := wx.heap.size) (cs := #[.int .i64 z]) (t := 3) (fr := (0, 0)) (Go.Deep.blk_alloc_new wx.drew _)
  · intro g cap w' h1 h2 _ _
    exact h g cap w' h1 h2

theorem beq_cast (a b : Nat) : ((a : Int) == (b : Int)) = (a == b) := by
  by_cases h : a = b
  · subst h
    rw [beq_self_eq_true, beq_self_eq_true]
  · rw [beq_eq_false_iff_ne.mpr h, beq_eq_false_iff_ne.mpr (by omega)]

theorem below_drewN {B : Nat} {w w' : World} (h : Below B w w') (q : Nat) : Below B w (w'.drewN q) := ⟨h.os, h.tape, h.output, h.size, h.block⟩

/-- one operation that builds a struct out of parts, by its run -/
theorem wp_build {P : Program} {o : Oper} {a : Act} {w : World} {K : Act → World → Prop} {Q : Exit → Act → World → Prop} (t : TypeId) (parts : Array (Nat × Operand)) (ho : o.op = Op.build t parts) (ps : Array (Nat × Value)) (v : Value)
    (hp : (parts.map fun x => (x.1, a.eval x.2)) = ps) (hrun : (Instr.build t ps).run P w = .ok v w) (h : K (a.put o.dst v) w) : o.wp P a w K Q := by
  subst hp
  unfold Oper.wp
  simp only [execOp, ho, Sem.run_bind, Sem.run_pure, hrun, Result.andThen_ok]
  simpa [Oper.upon] using h

theorem wpList_build {P : Program} {w : World} {ops : Array Oper} {rest : List Oper} {o : Oper} {a : Act} {Q : Exit → Act → World → Prop} (hg : o.guard = none) (t : TypeId) (parts : Array (Nat × Operand)) (ho : o.op = Op.build t parts) (ps : Array (Nat × Value)) (v : Value)
    (hp : (parts.map fun x => (x.1, a.eval x.2)) = ps) (hrun : (Instr.build t ps).run P w = .ok v w) (h : wpList P ops Q rest (a.put o.dst v) w) : wpList P ops Q (o :: rest) a w :=
  wpList_plain hg fun _ hK => wp_build t parts ho ps v hp hrun (hK _ _ h)

set_option maxRecDepth 100000 in
/-- what a round builds: its cells that are read -/
theorem build43 (s : ByteArray) (f : Int) : ∃ cs : Array Value, (∀ w, (Instr.build 43 #[(0, .string s), (3, .int .u16 f)]).run Yba.prog w = .ok (.agg cs) w) ∧ cs.size = 20 ∧
    cs[0]? = some (.string s) ∧ cs[3]? = some (.int .u16 f) ∧ cs[4]? = some (.pointer none) ∧ cs[5]? = some (.slice none 0 0) ∧ cs[8]? = some (.pointer none) :=
  ⟨((match Yba.prog.info? 43 with
      | some i => (match i.zero with
        | some z => z.cells
        | none => #[])
      | none => #[]).setIfInBounds 0 (.string s)).setIfInBounds 3 (.int .u16 f),
    fun w => by kernel_rfl, by kernel_rfl, by kernel_rfl, by kernel_rfl, by kernel_rfl, by kernel_rfl, by kernel_rfl⟩

set_option maxRecDepth 100000 in
set_option maxHeartbeats 4000000 in
theorem part2 (w wr : World) (N n : Nat) (o : Nat → Nd) (c t : Nat) (hn1 : 0 < n) (hn10 : n ≤ 10) (hc : c < 256) (ht : t < 256) (hN : w.heap.size = N) (hU : Upto w N n o n wr)
    (A : Act) (hsz : A.tmps.size = 404) (hdf : A.defers = []) (e1 : A.tmps[1]? = some (.int .u8 c)) (e2 : A.tmps[2]? = some (.int .u8 t)) (e7 : A.tmps[7]? = some (.int .i64 n))
    (e8 : A.tmps[8]? = some (.slice (some ⟨N, 0, none⟩) n n)) (e9 : A.tmps[9]? = some (.slice (some ⟨N + 1, 0, none⟩) n n)) (e10 : A.tmps[10]? = some (.slice (some ⟨N + 2, 0, none⟩) n n))
    (e11 : A.tmps[11]? = some (.slice (some ⟨N + 3, 0, none⟩) n n)) (e12 : A.tmps[12]? = some (.slice (some ⟨N + 4, 0, none⟩) n n)) (e13 : A.tmps[13]? = some (.slice (some ⟨N + 5, 0, none⟩) n n)) :
    Code.wp Yba.prog (nav [1, 1, 1, 1, 1, 1, 1, 1, 1, 1, 1, 1] (Yba.f3.body.getD .skip)) (bodyPost Yba.prog Yba.f3 fun e w' => e = .returned (.bool true) ∧ Below w.heap.size w w') A wr := by
  obtain ⟨x, rfl, hx⟩ := act_fr A hsz hdf
  replace e1 := hx _ _ e1
  replace e2 := hx _ _ e2
  replace e7 := hx _ _ e7
  replace e8 := hx _ _ e8
  replace e9 := hx _ _ e9
  replace e10 := hx _ _ e10
  replace e11 := hx _ _ e11
  replace e12 := hx _ _ e12
  replace e13 := hx _ _ e13
  clear hx hsz hdf
  have HNN : Hid (w.heap.size = N) := hN
  clear hN
  have hmk25 := run_make_row' (P := Yba.prog) 25 4 (.bool false) 1 Yba.underlying25 info4 rfl .i64 .i64 n (by omega) (by omega)
  have hmk44 := run_make_row' (P := Yba.prog) 44 25 (.slice none 0 0) 24 Yba.underlying44 info25 rfl .i64 .i64 n (by omega) (by omega)
  simp only [fr, Nat.reduceAdd, e1, e2, e7, e8, e9, e10, e11, e12, e13]
  clear e1 e2 e7 e8 e9 e10 e11 e12 e13
  conv => arg 2; whnf
  obtain ⟨IV, CB, hS, hIv, hCl, hInj⟩ := hU
  have hLaid : Laid wr (gr o) n CB := ⟨hInj, fun j hj => (hCl j hj).cls⟩
  have HCT : Hid (∀ j, j < n → ∀ wx, Below wr.heap.size wr wx → Cls wx (gr o) CB j) := fun j hj wx hb => ((hCl j hj).keep (Nat.le_refl _) (fun k _ hk => hb.block k hk) (gr_is o _) (fun _ _ => rfl)).cls
  have HIv : Hid (∀ j, j < n → Ints wr (N + 6) wr.heap.size (IV j) ((gr o).m j) ((gr o).f j)) := hIv
  have HLaid : Hid (Laid wr (gr o) n CB) := hLaid
  have hNT := hS.nsz
  have HB : Hid (Below N w wr) := hS.bel
  have HR0 : Hid (∀ j, j < n → wr.cell? ⟨N, j, none⟩ = some (.int .i64 (en ((gr o).sup j)))) := fun j hj => by rw [hS.r0.cell hj, upto_lt _ _ hj]
  have HR1 : Hid (∀ j, j < n → wr.cell? ⟨N + 1, j, none⟩ = some (.int .i64 (en ((gr o).cmp j)))) := fun j hj => by rw [hS.r1.cell hj, upto_lt _ _ hj]
  have HR2 : Hid (∀ j, j < n → wr.cell? ⟨N + 2, j, none⟩ = some (IV j)) := fun j hj => by rw [hS.r2.cell hj, upto_lt _ _ hj]
  have HR3 : Hid (∀ j, j < n → wr.cell? ⟨N + 3, j, none⟩ = some (.bool (o j).arr)) := fun j hj => by rw [hS.r3.cell hj, upto_lt _ _ hj]
  have HR4 : Hid (∀ j, j < n → wr.cell? ⟨N + 4, j, none⟩ = some (.bool (o j).isf)) := fun j hj => by rw [hS.r4.cell hj, upto_lt _ _ hj]
  have HR5 : Hid (∀ j, j < n → wr.cell? ⟨N + 5, j, none⟩ = some (.pointer (some ⟨CB j, 0, none⟩))) := fun j hj => by rw [hS.r5.cell hj, upto_lt _ _ hj]
  clear hS hIv hCl hInj hLaid
  go_wp2_with fail
  have hM0 := mh_start wr n (gr o)
  generalize (wr.alloc (Obj.cells (madeCells #[Value.slice none 0 0] n) 25)).alloc (Obj.cells (madeCells #[Value.slice none 0 0] n) 25) = wm at *
  rename_i wL
  generalize wr.heap.size = T at *
  have HM0 : Hid (Mh wr T n (gr o) 0 wm) := hM0
  clear hM0 hmk44
  go_loopw [26] (fun s wx => ∃ k : Nat, k ≤ n ∧ s = .int .i64 k ∧ Mh wr T n (gr o) k wx) (fun s _ => n - (intOf s).toNat)
  case atStart => exact ⟨0, by omega, rfl, HM0.out⟩
  case round =>
    rename World => wx
    obtain ⟨k, hk, rfl, hM⟩ := hrel
    clear HM0
    by_cases hkn : k < n
    · have hkn' : (k : Int) < n := by omega
      have t0 := hM.r.cell hkn
      have t1 := hM.s.cell hkn
      have t2 := hM.r.frozen k
      have t3 := hM.s.frozen k
      have hsz := hM.size
      have hT0 : T < wx.heap.size := by omega
      have hT1 : T + 1 < wx.heap.size := by omega
      have HM : Hid (Mh wr T n (gr o) k wx) := hM
      clear hM hsz
      go_upto_region 58 with fail
      obtain ⟨wy, hwy⟩ : ∃ wy, wy = (((wx.setCell ⟨T, k, none⟩ (.slice (some ⟨wx.heap.size, 0, none⟩) n n)).setCell ⟨T + 1, k, none⟩ (.slice (some ⟨wx.heap.size + 1, 0, none⟩) n n)).alloc (Obj.cells (madeCells #[Value.bool false] n) 4)).alloc (Obj.cells (madeCells #[Value.bool false] n) 4) := ⟨_, rfl⟩
      have hMy := HM.out.make hwy
      rw [← hwy, HM.out.size, show T + 2 + 2 * k + 1 = T + 3 + 2 * k by omega]
      clear hwy t0 t1 t2 t3 hT0 hT1 HM
      obtain ⟨B, hB⟩ : ∃ B, B = T + 2 + 2 * k := ⟨_, rfl⟩
      obtain ⟨B', hB'⟩ : ∃ B', B' = T + 3 + 2 * k := ⟨_, rfl⟩
      have t0 := hMy.r.cell hkn
      rw [upto_lt _ _ (Nat.lt_succ_self k)] at t0
      have t1 := hMy.s.cell hkn
      rw [upto_lt _ _ (Nat.lt_succ_self k)] at t1
      have x0 := hMy.x.cell hkn
      have x1 := hMy.x.frozen k
      have y0 := hMy.y.cell hkn
      have y1 := hMy.y.frozen k
      rw [← hB] at t0 x0 x1
      rw [← hB'] at t1 y0 y1
      rw [← hB, ← hB']
      have m0 : ¬ B = T := by omega
      have m1 : ¬ B = T + 1 := by omega
      have m2 : ¬ B = B' := by omega
      have m3 : ¬ T + 1 = B := by omega
      have m4 : ¬ B' = B := by omega
      have m5 : ¬ B = N := by omega
      have m6 : ¬ B' = N := by omega
      have HB0 : Hid (B = T + 2 + 2 * k) := hB
      have HB1 : Hid (B' = T + 3 + 2 * k) := hB'
      have HMy : Hid (Mt wr T n (gr o) k (fun _ => false) (fun _ => false) wy) := hMy
      clear hB hB' hMy
      obtain ⟨e0, he0⟩ : ∃ e0, e0 = en ((gr o).sup k) := ⟨_, rfl⟩
      have p0 := (HMy.out.bel.cell (p := ⟨N, k, none⟩) (by show N < T; omega)).trans (HR0.out k hkn)
      rw [← he0] at p0
      have HE0 : Hid (e0 = en ((gr o).sup k)) := he0
      clear he0
      go_upto_if 258 with fail
      have hMz : Mt wr T n (gr o) k (fun t => k == t) (fun t => k == t) ((wy.setCell ⟨B, k, none⟩ (.bool true)).setCell ⟨B', k, none⟩ (.bool true)) := by
        rw [HB0.out, HB1.out]
        refine ((HMy.out.setX k).setY k).congr (fun t _ => ?_) (fun t _ => ?_)
        · by_cases e : t = k
          · simp [e]
          · have e2 : ¬ k = t := fun h => e h.symm
            simp [e, e2]
        · by_cases e : t = k
          · simp [e]
          · have e2 : ¬ k = t := fun h => e h.symm
            simp [e, e2]
      generalize (wy.setCell ⟨B, k, none⟩ (.bool true)).setCell ⟨B', k, none⟩ (.bool true) = wz at *
      have HMz : Hid (Mt wr T n (gr o) k (fun t => k == t) (fun t => k == t) wz) := hMz
      clear hMz HMy t0 t1 x0 x1 y0 y1 p0 m3
      go_cut [] from 253 to 258 (fun wv => Mt wr T n (gr o) k (fun t => (k == t) || supR (gr o) k t) (fun t => sreach (gr o) k t) wv)
      case first =>
        cases hsup : (gr o).sup k with
        | none =>
          have hneg : ¬ (0 : Int) ≤ e0 := by rw [HE0.out, hsup]; decide
          go_wp2_with fail
          go_meet
          case rel => exact HMz.out.congr (fun t _ => by rw [supR_none hsup, Bool.or_false]) (fun t _ => sreach_none (gr_is o n) hkn hsup t)
        | some s =>
          have hsk : s < k := (gr_is o n k hkn).1 s hsup
          obtain rfl : e0 = (s : Int) := by rw [HE0.out, hsup]; rfl
          have hsn : (s : Int) < n := by omega
          have HSU : Hid ((gr o).sup k = some s) := hsup
          clear hsup HE0
          rw [show decide ((0 : Int) ≤ (s : Int)) = true from by simp]
          go_wp2_with fail
          go_loopw [28] (fun v wv => ∃ j : Nat, j ≤ n ∧ v = .int .i64 j ∧ Mt wr T n (gr o) k (fun t => (k == t) || (decide (t < j) && reach (gr o) s t)) (fun t => (k == t) || (decide (t < j) && sreach (gr o) s t)) wv) (fun v _ => n - (intOf v).toNat)
          case atStart => exact ⟨0, by omega, rfl, HMz.out.congr (fun t _ => bump_start t) (fun t _ => bump_start t)⟩
          case round =>
            rename World => wv
            obtain ⟨j, hj, rfl, hMv⟩ := hrel
            by_cases hjn : j < n
            · have hjn' : (j : Int) < n := by omega
              have t0 := hMv.r.cell hkn
              rw [upto_lt _ _ (Nat.lt_succ_self k), ← HB0.out] at t0
              have t1 := hMv.s.cell hkn
              rw [upto_lt _ _ (Nat.lt_succ_self k), ← HB1.out] at t1
              have s0 := hMv.r.cell (i := s) (by omega)
              rw [upto_lt _ _ (by omega)] at s0
              have s1 := hMv.s.cell (i := s) (by omega)
              rw [upto_lt _ _ (by omega)] at s1
              have r0 := (hMv.rr s hsk).cell hjn
              have r1 := (hMv.ss s hsk).cell hjn
              have x0 := hMv.x.cell hjn
              have x1 := hMv.x.frozen j
              have y0 := hMv.y.cell hjn
              have y1 := hMv.y.frozen j
              rw [← HB0.out] at x0 x1
              rw [← HB1.out] at y0 y1
              have n0 : ¬ B = T + 3 + 2 * s := by have := HB0.out; omega
              have HMv : Hid (Mt wr T n (gr o) k (fun t => (k == t) || (decide (t < j) && reach (gr o) s t)) (fun t => (k == t) || (decide (t < j) && sreach (gr o) s t)) wv) := hMv
              clear hMv HMz
              cases hr0 : reach (gr o) s j with
              | true =>
                rw [hr0] at r0
                have HR : Hid (reach (gr o) s j = true) := hr0
                clear hr0
                cases hr1 : sreach (gr o) s j with
                | true =>
                  rw [hr1] at r1
                  have HSr : Hid (sreach (gr o) s j = true) := hr1
                  clear hr1
                  go_wp2_with fail
                  go_roundw
                  case rel =>
                    rw [HB0.out, HB1.out]
                    exact ⟨j + 1, by omega, by go_num, ((HMv.out.setX j).setY j).congr (fun t _ => bump_yes HR.out t) (fun t _ => bump_yes HSr.out t)⟩
                  case measure => simp [intOf]; omega
                | false =>
                  rw [hr1] at r1
                  have HSr : Hid (sreach (gr o) s j = false) := hr1
                  clear hr1
                  go_wp2_with fail
                  go_roundw
                  case rel =>
                    rw [HB0.out]
                    exact ⟨j + 1, by omega, by go_num, (HMv.out.setX j).congr (fun t _ => bump_yes HR.out t) (fun t _ => bump_no HSr.out t)⟩
                  case measure => simp [intOf]; omega
              | false =>
                rw [hr0] at r0
                have HR : Hid (reach (gr o) s j = false) := hr0
                clear hr0
                cases hr1 : sreach (gr o) s j with
                | true =>
                  rw [hr1] at r1
                  have HSr : Hid (sreach (gr o) s j = true) := hr1
                  clear hr1
                  go_wp2_with fail
                  go_roundw
                  case rel =>
                    rw [HB1.out]
                    exact ⟨j + 1, by omega, by go_num, (HMv.out.setY j).congr (fun t _ => bump_no HR.out t) (fun t _ => bump_yes HSr.out t)⟩
                  case measure => simp [intOf]; omega
                | false =>
                  rw [hr1] at r1
                  have HSr : Hid (sreach (gr o) s j = false) := hr1
                  clear hr1
                  go_wp2_with fail
                  go_roundw
                  case rel => exact ⟨j + 1, by omega, by go_num, HMv.out.congr (fun t _ => bump_no HR.out t) (fun t _ => bump_no HSr.out t)⟩
                  case measure => simp [intOf]; omega
            · have hje : n = j := by omega
              subst hje
              have HMv : Hid (Mt wr T n (gr o) k (fun t => (k == t) || (decide (t < n) && reach (gr o) s t)) (fun t => (k == t) || (decide (t < n) && sreach (gr o) s t)) wv) := hMv
              clear hMv HMz
              go_wp2_with fail
              go_meet
              case rel => exact HMv.out.congr (fun t ht => by rw [bump_end t ht, supR_some HSU.out]) (fun t ht => by rw [bump_end t ht]; exact sreach_some (gr_is o n) hkn HSU.out t)
      case rest =>
        rename World => wu
        have HMu : Hid (Mt wr T n (gr o) k (fun t => (k == t) || supR (gr o) k t) (fun t => sreach (gr o) k t) wu) := hcut
        clear hcut HMz HE0
        obtain ⟨IA, ic, hIV, hIA⟩ := HIv.out k hkn
        have hm10 := gr_m_le o k
        have hfk : ∀ q, q < (gr o).m k → (gr o).f k q < k := (gr_is o n k hkn).2.2
        have HRE : Hid (∀ t, ((k == t) || supR (gr o) k t || anyTo (fun j => reach (gr o) ((gr o).f k j) t) ((gr o).m k)) = reach (gr o) k t) := fun t => reach_sup (gr_is o n) hkn t
        have q2 := HR2.out k hkn
        rw [hIV] at q2
        have HQ2 : Hid (wr.cell? ⟨N + 2, k, none⟩ = some (.slice IA ((gr o).m k) ic)) := q2
        clear q2 hIV
        generalize hM : (gr o).m k = M at *
        clear hM
        go_wp2_with fail
        go_loopw [29] (fun v wv => ∃ e : Nat, e ≤ M ∧ v = .int .i64 e ∧ Mt wr T n (gr o) k (fun t => (k == t) || supR (gr o) k t || anyTo (fun j => reach (gr o) ((gr o).f k j) t) e) (fun t => sreach (gr o) k t) wv) (fun v _ => M - (intOf v).toNat)
        case atStart => exact ⟨0, by omega, rfl, HMu.out.congr (fun t _ => (Bool.or_false _).symm) (fun _ _ => rfl)⟩
        case round =>
          rename World => wv
          obtain ⟨e, he, rfl, hMv⟩ := hrel
          have p2 := (hMv.bel.cell (p := ⟨N + 2, k, none⟩) (by show N + 2 < T; omega)).trans HQ2.out
          have HMv : Hid (Mt wr T n (gr o) k (fun t => (k == t) || supR (gr o) k t || anyTo (fun j => reach (gr o) ((gr o).f k j) t) e) (fun t => sreach (gr o) k t) wv) := hMv
          clear hMv HMu
          by_cases heM : e < M
          · have heM' : (e : Int) < M := by omega
            obtain ⟨ib, hA, hib1, hib2, hic⟩ := hIA (by omega)
            subst hA
            obtain ⟨mm, hmm⟩ : ∃ mm, mm = (gr o).f k e := ⟨_, rfl⟩
            have pe := (HMv.out.bel.cell (p := ⟨ib, e, none⟩) hib2).trans (hic e heM)
            rw [← hmm] at pe
            have hmk : mm < k := hmm ▸ hfk e heM
            have hmn : (mm : Int) < n := by omega
            have HMM : Hid (mm = (gr o).f k e) := hmm
            clear hic hIA hmm
            go_wp2_with fail
            go_loopw [31] (fun v wv => ∃ j : Nat, j ≤ n ∧ v = .int .i64 j ∧ Mt wr T n (gr o) k (fun t => ((k == t) || supR (gr o) k t || anyTo (fun j => reach (gr o) ((gr o).f k j) t) e) || (decide (t < j) && reach (gr o) mm t)) (fun t => sreach (gr o) k t) wv) (fun v _ => n - (intOf v).toNat)
            case atStart => exact ⟨0, by omega, rfl, HMv.out.congr (fun t _ => bump_start (Z := fun t => ((k == t) || supR (gr o) k t || anyTo (fun j => reach (gr o) ((gr o).f k j) t) e)) (R := reach (gr o) mm) t) (fun _ _ => rfl)⟩
            case round =>
              rename World => wq
              obtain ⟨j, hj, rfl, hMq⟩ := hrel
              by_cases hjn : j < n
              · have hjn' : (j : Int) < n := by omega
                have t0 := hMq.r.cell hkn
                rw [upto_lt _ _ (Nat.lt_succ_self k), ← HB0.out] at t0
                have s0 := hMq.r.cell (i := mm) (by omega)
                rw [upto_lt _ _ (by omega)] at s0
                have r0 := (hMq.rr mm hmk).cell hjn
                have x0 := hMq.x.cell hjn
                have x1 := hMq.x.frozen j
                rw [← HB0.out] at x0 x1
                have HMq : Hid (Mt wr T n (gr o) k (fun t => ((k == t) || supR (gr o) k t || anyTo (fun j => reach (gr o) ((gr o).f k j) t) e) || (decide (t < j) && reach (gr o) mm t)) (fun t => sreach (gr o) k t) wq) := hMq
                clear hMq HMv p2 pe
                cases hr0 : reach (gr o) mm j with
                | true =>
                  rw [hr0] at r0
                  have HR : Hid (reach (gr o) mm j = true) := hr0
                  clear hr0
                  go_wp2_with fail
                  go_roundw
                  case rel =>
                    rw [HB0.out]
                    exact ⟨j + 1, by omega, by go_num, (HMq.out.setX j).congr (fun t _ => bump_yes (Z := fun t => ((k == t) || supR (gr o) k t || anyTo (fun j => reach (gr o) ((gr o).f k j) t) e)) HR.out t) (fun _ _ => rfl)⟩
                  case measure => simp [intOf]; omega
                | false =>
                  rw [hr0] at r0
                  have HR : Hid (reach (gr o) mm j = false) := hr0
                  clear hr0
                  go_wp2_with fail
                  go_roundw
                  case rel => exact ⟨j + 1, by omega, by go_num, HMq.out.congr (fun t _ => bump_no (Z := fun t => ((k == t) || supR (gr o) k t || anyTo (fun j => reach (gr o) ((gr o).f k j) t) e)) HR.out t) (fun _ _ => rfl)⟩
                  case measure => simp [intOf]; omega
              · have hje : n = j := by omega
                subst hje
                have HMq : Hid (Mt wr T n (gr o) k (fun t => ((k == t) || supR (gr o) k t || anyTo (fun j => reach (gr o) ((gr o).f k j) t) e) || (decide (t < n) && reach (gr o) mm t)) (fun t => sreach (gr o) k t) wq) := hMq
                clear hMq HMv p2 pe
                go_wp2_with fail
                go_roundw
                case rel =>
                  refine ⟨e + 1, by omega, by go_num, HMq.out.congr (fun t ht => ?_) (fun _ _ => rfl)⟩
                  rw [bump_end (Z := fun t => ((k == t) || supR (gr o) k t || anyTo (fun j => reach (gr o) ((gr o).f k j) t) e)) t ht, anyTo, HMM.out, Bool.or_assoc]
                case measure => simp [intOf]; omega
          · have hee : M = e := by omega
            subst hee
            clear p2
            have p2 := (HMv.out.bel.cell (p := ⟨N + 2, k, none⟩) (by show N + 2 < T; omega)).trans HQ2.out
            go_wp2_with fail
            go_roundw
            case rel => exact ⟨k + 1, by omega, by go_num, HMv.out.next (fun t _ => HRE.out t) (fun _ _ => rfl)⟩
            case measure => simp [intOf]; omega
    · have hke : n = k := by omega
      subst hke
      have HM : Hid (Mh wr T n (gr o) n wx) := hM
      clear hM
      have hne : ¬ n = 0 := by omega
      obtain ⟨ci, hci⟩ : ∃ ci, ci = c % n := ⟨_, rfl⟩
      obtain ⟨ti, hti⟩ : ∃ ti, ti = t % n := ⟨_, rfl⟩
      have hcn : ci < n := by rw [hci]; exact Nat.mod_lt _ hn1
      have htn : ti < n := by rw [hti]; exact Nat.mod_lt _ hn1
      have hci' : (c : Int) % (n : Int) = (ci : Int) := by rw [hci]; rfl
      have hti' : (t : Int) % (n : Int) = (ti : Int) := by rw [hti]; rfl
      clear hci hti
      generalize hr : asg (gr o) (ci + 1) ci ti = r
      go_upto_block 14 with fail
      rw [hci', hti']
      have HRR : Hid (asg (gr o) (ci + 1) ci ti = r) := hr
      clear hr hci' hti'
      go_cut [34] from 334 to 334 (fun v wv => v = .bool r ∧ wv = wx)
      case first =>
        go_wp2_with fail
        go_loopw [34, 35, 36, 37] (fun s34 s35 s36 s37 wv => wv = wx ∧ ∃ a b' q : Nat, a < n ∧ b' < n ∧ a + q ≤ ci ∧ s34 = .bool false ∧ s35 = .int .i64 a ∧ s36 = .int .i64 b' ∧ s37 = .int .i64 q ∧ asg (gr o) (a + 1) a b' = r) (fun _ s35 _ _ _ => (intOf s35).toNat)
        case atStart => exact ⟨rfl, ci, ti, 0, hcn, htn, by omega, rfl, rfl, rfl, rfl, HRR.out⟩
        case round =>
          obtain ⟨rfl, a, b', q, han, hbn, haq, rfl, rfl, rfl, rfl, hA⟩ := hrel
          rename World => wx
          have HA : Hid (asg (gr o) (a + 1) a b' = r) := hA
          clear hA HRR
          have hqn : (q : Int) ≤ n := by omega
          have han' : (a : Int) < n := by omega
          have hbn' : (b' : Int) < n := by omega
          have hcell : ∀ p : Addr, p.block < T → wx.cell? p = wr.cell? p := fun p hp => HM.out.bel.cell hp
          have p3 : wx.cell? ⟨N + 3, b', none⟩ = some (.bool ((gr o).arr b')) := (hcell _ (by show N + 3 < T; omega)).trans (HR3.out b' hbn)
          have p3' : wx.cell? ⟨N + 3, a, none⟩ = some (.bool ((gr o).arr a)) := (hcell _ (by show N + 3 < T; omega)).trans (HR3.out a han)
          have p4 : wx.cell? ⟨N + 4, b', none⟩ = some (.bool ((gr o).isf b')) := (hcell _ (by show N + 4 < T; omega)).trans (HR4.out b' hbn)
          have p1 := (hcell ⟨N + 1, a, none⟩ (by show N + 1 < T; omega)).trans (HR1.out a han)
          have p1' := (hcell ⟨N + 1, b', none⟩ (by show N + 1 < T; omega)).trans (HR1.out b' hbn)
          have t0 := HM.out.r.cell han
          rw [upto_lt _ _ han] at t0
          have t1 := HM.out.s.cell han
          rw [upto_lt _ _ han] at t1
          have u0 := (HM.out.rr a han).cell hbn
          have u1 := (HM.out.ss a han).cell hbn
          clear hcell
          cases hb1 : (gr o).arr b' with
          | false =>
            rw [hb1] at p3
            clear p1 p1' p3'
            have HP : Hid (r = if (gr o).isf b' then reach (gr o) a b' else sreach (gr o) a b') := HA.out.symm.trans (asg_plain (by first | exact Or.inl hb1 | exact Or.inr ha1))
            cases hi1 : (gr o).isf b' with
            | true =>
              rw [hi1] at p4 HP
              clear hi1 HA
              go_wp2_with fail
              go_meet
              case rel => exact ⟨by rw [HP.out]; rfl, rfl⟩
            | false =>
              rw [hi1] at p4 HP
              clear hi1 HA
              go_wp2_with fail
              go_meet
              case rel => exact ⟨by rw [HP.out]; rfl, rfl⟩
          | true =>
            rw [hb1] at p3
            cases ha1 : (gr o).arr a with
            | false =>
              rw [ha1] at p3'
              clear p1 p1'
              have HP : Hid (r = if (gr o).isf b' then reach (gr o) a b' else sreach (gr o) a b') := HA.out.symm.trans (asg_plain (by first | exact Or.inl hb1 | exact Or.inr ha1))
              cases hi1 : (gr o).isf b' with
              | true =>
                rw [hi1] at p4 HP
                clear hi1 HA
                go_wp2_with fail
                go_meet
                case rel => exact ⟨by rw [HP.out]; rfl, rfl⟩
              | false =>
                rw [hi1] at p4 HP
                clear hi1 HA
                go_wp2_with fail
                go_meet
                case rel => exact ⟨by rw [HP.out]; rfl, rfl⟩
            | true =>
              rw [ha1] at p3'
              clear p4 t0 t1 u0 u1
              obtain ⟨ea, hea⟩ : ∃ ea, ea = en ((gr o).cmp a) := ⟨_, rfl⟩
              obtain ⟨eb, heb⟩ : ∃ eb, eb = en ((gr o).cmp b') := ⟨_, rfl⟩
              rw [← hea] at p1
              rw [← heb] at p1'
              cases hca : (gr o).cmp a with
              | none =>
                have HP : Hid (r = (a == b')) := HA.out.symm.trans (asg_nil hb1 ha1 (Or.inl hca))
                have hneg : ea < 0 := by rw [hea, hca]; decide
                clear hea heb hb1 ha1 HA
                go_wp2_with fail
                go_meet
                case rel => exact ⟨by rw [HP.out]; exact congrArg Value.bool (beq_cast a b'), rfl⟩
              | some a2 =>
                have hla : a2 < a := (gr_is o n a han).2.1 a2 hca
                obtain rfl : ea = (a2 : Int) := by rw [hea, hca]; rfl
                have hpos : ¬ (a2 : Int) < 0 := by omega
                cases hcb : (gr o).cmp b' with
                | none =>
                  have HP : Hid (r = (a == b')) := HA.out.symm.trans (asg_nil hb1 ha1 (Or.inr hcb))
                  have hneg : eb < 0 := by rw [heb, hcb]; decide
                  clear hea heb hb1 ha1 HA
                  go_wp2_with fail
                  go_meet
                  case rel => exact ⟨by rw [HP.out]; exact congrArg Value.bool (beq_cast a b'), rfl⟩
                | some b2 =>
                  have hlb : b2 < b' := (gr_is o n b' hbn).2.1 b2 hcb
                  obtain rfl : eb = (b2 : Int) := by rw [heb, hcb]; rfl
                  have hpos2 : ¬ (b2 : Int) < 0 := by omega
                  have HP : Hid (asg (gr o) (a2 + 1) a2 b2 = r) := (asg_some (gr_is o n) han hb1 ha1 hca hcb).symm.trans HA.out
                  clear hea heb hb1 ha1 HA hca hcb
                  go_wp2_with fail
                  go_roundw
                  case rel => exact ⟨by first | rfl | trivial, a2, b2, q + 1, by omega, by omega, by omega, rfl, rfl, rfl, by go_num, HP.out⟩
                  case measure => simp [intOf]; omega
      case rest =>
        obtain ⟨rfl, hwc⟩ := hcut
        have hwc' := hwc.symm
        clear hwc
        subst hwc'
        have p5 := (HM.out.bel.cell (p := ⟨N + 5, ci, none⟩) (by show N + 5 < T; omega)).trans (HR5.out ci hcn)
        have p6 := (HM.out.bel.cell (p := ⟨N + 5, ti, none⟩) (by show N + 5 < T; omega)).trans (HR5.out ti htn)
        have hcn' : (ci : Int) < n := by omega
        have htn' : (ti : Int) < n := by omega
        have hLx : Laid wx (gr o) n CB := ⟨HLaid.out.1, fun j hj => HCT.out j hj wx HM.out.bel⟩
        have HC : Hid (∀ x, Calls Yba.prog 4 #[.pointer (some ⟨CB ci, 0, none⟩), .pointer (some ⟨CB ti, 0, none⟩)] (wx.drewN x) fun e w' => e = .returned (.bool r) ∧ ∃ y, w' = wx.drewN y) := fun x => by
          rw [← HRR.out]
          exact Calls.quiet_of (assign_any (gr o) n CB (gr_is o n) (fun j _ => gr_m_le o j) (ci + 1) ci ti _ (hLx.drewN x) (by omega) hcn htn)
        clear hLx
        have HEND : Hid (Below w.heap.size w wx) := by
          unfold Hid
          rw [HNN.out]
          exact HB.out.trans (HM.out.bel.mono (by omega))
        go_upto_region 93 with fail
        go_quiet ((go_at_call 4; exact HC.out _))
        go_wp2_with fail
        go_ret
        refine ⟨?_, below_drewN HEND.out nq⟩
        cases r <;> rfl
end Go.Proofs.Ybulkeyzu
