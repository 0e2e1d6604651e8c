import Derived.Test.YbulkeyzuW3
namespace Go.Proofs.Ybulkeyzu
open Go.RowKit

set_option maxRecDepth 100000 in
set_option maxHeartbeats 4000000 in
theorem law_any (w : World) (b off len cap : Nat) (o : Nat → Nd) (c t : Nat) (h0 : 0 < len) (hlen : len ≤ maxLen) (hin : IsNds w b off len o) (hc : c < 256) (ht : t < 256) :
    Calls Yba.prog 3 #[.slice (some ⟨b, off, none⟩) len cap, .int .u8 c, .int .u8 t] w fun e w' => e = .returned (.bool true) ∧ Below w.heap.size w w' := by
  have hl0 : ((len : Int) == 0) = false := by simp; omega
  obtain ⟨n, hn⟩ : ∃ n, n = min len 10 := ⟨_, rfl⟩
  have hn1 : 0 < n := by omega
  have hn10 : n ≤ 10 := by omega
  have hnl : n ≤ len := by omega
  have HN : Hid (n = min len 10) := hn
  clear hn
  unfold maxLen at hlen
  have hmk23 := run_make_row' (P := Yba.prog) 23 3 (.int .i64 0) 8 Yba.underlying23 info3 rfl .i64 .i64 n (by omega) (by omega)
  have hmk24 := run_make_row' (P := Yba.prog) 24 23 (.slice none 0 0) 24 Yba.underlying24 info23 rfl .i64 .i64 n (by omega) (by omega)
  have hmk25 := run_make_row' (P := Yba.prog) 25 4 (.bool false) 1 Yba.underlying25 info4 rfl .i64 .i64 n (by omega) (by omega)
  have hmk26 := run_make_row' (P := Yba.prog) 26 31 (.pointer none) 8 Yba.underlying26 info31 rfl .i64 .i64 n (by omega) (by omega)
  have hmk44 := run_make_row' (P := Yba.prog) 44 25 (.slice none 0 0) 24 Yba.underlying44 info25 rfl .i64 .i64 n (by omega) (by omega)
  go_enter Yba.func3, Yba.ntmps3
  go_upto_if 44 with fail
  go_cut [7] from 44 to 44 (fun s wc => s = .int .i64 n ∧ wc = w)
  case first =>
    by_cases hl : (10 : Int) < len
    · have : n = 10 := by have := HN.out; omega
      go_wp2_with fail
      go_meet
      case rel => subst this; exact ⟨rfl, rfl⟩
    · have : n = len := by have := HN.out; omega
      go_wp2_with fail
      go_meet
      case rel => subst this; exact ⟨rfl, rfl⟩
  case rest =>
    obtain ⟨rfl, hwc⟩ := hcut
    have hwc' := hwc.symm
    clear hwc
    subst hwc'
    go_upto_block 0 with fail
    simp only [Nat.add_assoc, Nat.reduceAdd]
    obtain ⟨N, hN⟩ : ∃ N, w.heap.size = N := ⟨_, rfl⟩
    have hU0 := upto_start w N n o hN
    generalize ((((((w.alloc (Obj.cells (madeCells #[Value.int IntKind.i64 0] n) 3)).alloc (Obj.cells (madeCells #[Value.int IntKind.i64 0] n) 3)).alloc (Obj.cells (madeCells #[Value.slice none 0 0] n) 23)).alloc
              (Obj.cells (madeCells #[Value.bool false] n) 4)).alloc (Obj.cells (madeCells #[Value.bool false] n) 4)).alloc (Obj.cells (madeCells #[Value.pointer none] n) 31)) = w6 at hU0 ⊢
    rw [hN]
    have HNN : Hid (w.heap.size = N) := hN
    clear hN
    go_cut [14, 15, 16, 17, 18, 19, 20, 21, 22, 23] from 57 to 221 (fun _ _ _ _ _ _ _ _ _ _ wx => Upto w N n o n wx)
    case first =>
      go_wp2_with fail
      go_loopw [14, 15] (fun s14 s15 wr => ∃ i : Nat, i ≤ n ∧ s14 = .int .i64 (bud o i : Nat) ∧ s15 = .int .i64 i ∧ Upto w N n o i wr) (fun _ s _ => n - (intOf s).toNat)
      case atStart => exact ⟨0, by omega, rfl, rfl, hU0⟩
      case round =>
        obtain ⟨i, hi, rfl, rfl, hU⟩ := hrel
        by_cases hin' : i < n
        · obtain ⟨IV, CB, hS, hIv, hCl, hInj⟩ := hU
          have hbw : Below w.heap.size w wr := HNN.out ▸ hS.bel
          have hinr := hin.below hbw
          obtain ⟨hbs, hnd⟩ := hinr
          obtain ⟨e0, e1, e2, e3, e4, hsp, hcp, hlc, hcm, hif⟩ := hnd i (by omega)
          have hI : (i : Int) < (len : Int) := by omega
          have hI2 : (i : Int) < (n : Int) := by omega
          have p0 := hS.r0.cell hin'
          have p1 := hS.r1.cell hin'
          have q0 := hS.r0.frozen i
          have q1 := hS.r1.frozen i
          have hN0 : N < wr.heap.size := hS.r0.lt
          have hN1 : N + 1 < wr.heap.size := hS.r1.lt
          have hNS := hS.nsz
          have HIv : Hid (∀ j, j < i → Ints wr (N + 6) wr.heap.size (IV j) ((gr o).m j) ((gr o).f j)) := hIv
          have HCl : Hid (∀ j, j < i → ClsIn wr (N + 6) wr.heap.size (gr o) CB j) := hCl
          have HInj : Hid (∀ j k, j < i → k < i → CB j = CB k → j = k) := hInj
          have HS : Hid (St w N n wr wr.heap.size (upto i (fun j => .int .i64 (en ((gr o).sup j))) (.int .i64 0)) (upto i (fun j => .int .i64 (en ((gr o).cmp j))) (.int .i64 0)) (upto i IV (.slice none 0 0)) (upto i (fun j => .bool (o j).arr) (.bool false)) (upto i (fun j => .bool (o j).isf) (.bool false)) (upto i (fun j => .pointer (some ⟨CB j, 0, none⟩)) (.pointer none)) wr) := hS
          clear hS hIv hCl hInj hnd hbw
          go_upto_if 73 with fail
          obtain ⟨W2, hW2⟩ : ∃ W2, W2 = ((wr.setCell ⟨N, i, none⟩ (.int .i64 (-1))).setCell ⟨N + 1, i, none⟩ (.int .i64 (-1))).alloc (Obj.cells #[.bool (o i).arr, .bool (o i).isf, .int .u8 (o i).sp, .int .u8 (o i).cp, .slice (o i).A (o i).l (o i).c] 29) := ⟨_, rfl⟩
          obtain ⟨hs2, hS2, hnr, hst⟩ := round_head HS.out i (o i) hW2
          rw [← hW2]
          have HIv2 : Hid (∀ j, j < i → Ints W2 (N + 6) (wr.heap.size + 1) (IV j) ((gr o).m j) ((gr o).f j)) := fun j hj => (HIv.out j hj).keep (by omega) hst
          have HCl2 : Hid (∀ j, j < i → ClsIn W2 (N + 6) (wr.heap.size + 1) (gr o) CB j) := fun j hj => (HCl.out j hj).keep (by omega) hst (gr_is o _) (fun _ _ => rfl)
          clear HIv HCl HS hst hW2 p0 p1 q0 q1 hbs hN0 hN1 e0 e1 e2 e3 e4 hif
          obtain ⟨-, -, -, -, -, -, -, -, -, hif⟩ := hin.2 i (by omega)
          generalize wr.heap.size = S at *
          have HS2 : Hid (St w N n W2 (S + 1) _ _ _ _ _ _ W2) := hS2
          have HNR : Hid (W2.rowIs S 29 5 (ndF (o i))) := hnr
          clear hS2 hnr
          go_cut [14] from 72 to 73 (fun s14 wx => ∃ iv, s14 = .int .i64 (bud o (i + 1) : Nat) ∧ St w N n W2 (S + 1) (fun j => if j = i then .int .i64 (en ((gr o).sup i)) else upto i (fun j => .int .i64 (en ((gr o).sup j))) (.int .i64 0) j) (fun j => if j = i then .int .i64 (en ((gr o).cmp i)) else upto i (fun j => .int .i64 (en ((gr o).cmp j))) (.int .i64 0) j) (fun j => if j = i then iv else upto i IV (.slice none 0 0) j) (upto i (fun j => .bool (o j).arr) (.bool false)) (upto i (fun j => .bool (o j).isf) (.bool false)) (upto i (fun j => .pointer (some ⟨CB j, 0, none⟩)) (.pointer none)) wx ∧ Ints wx (S + 1) wx.heap.size iv ((gr o).m i) ((gr o).f i))
          case first =>
            by_cases hi0 : i = 0
            · have hi0' : ¬ (0 : Int) < i := by omega
              have HI0 : Hid (i = 0) := hi0
              clear hi0
              go_wp2_with fail
              go_meet
              case rel =>
                obtain rfl := HI0.out
                refine ⟨.slice none 0 0, rfl, HS2.out.congr (fun _ _ => rfl) (fun _ _ => rfl) (fun j _ => ?_) (fun _ _ => rfl) (fun _ _ => rfl) (fun _ _ => rfl), ?_⟩
                · rw [upto_zero]; split <;> rfl
                · exact ⟨none, 0, rfl, fun h => absurd h (by show ¬ 0 < 0; omega)⟩
            · have hi0' : (0 : Int) < i := by omega
              have hip : 0 < i := by omega
              clear hi0
              have y2 := HNR.out.cell (i := 2) (by omega)
              have y3 := HNR.out.cell (i := 3) (by omega)
              simp only [ndF] at y2 y3
              go_upto_if 82 with fail
              obtain ⟨s, hs⟩ : ∃ s, s = (o i).sp % (i + 1) := ⟨_, rfl⟩
              have hrs : ((o i).sp : Int) % ((i : Int) + 1) = (s : Int) := by rw [hs]; rfl
              rw [hrs]
              have HSD : Hid (s = (o i).sp % (i + 1)) := hs
              clear hs
              have HSP : Hid ((gr o).sup i = pk (o i).sp i) := rfl
              have HCP : Hid ((gr o).cmp i = pk (o i).cp i) := rfl
              clear y2 hrs
              go_cut [] from 72 to 82 (fun wx => St w N n W2 (S + 1) (fun j => if j = i then .int .i64 (en ((gr o).sup i)) else upto i (fun j => .int .i64 (en ((gr o).sup j))) (.int .i64 0) j) (fun j => if j = i then .int .i64 (-1) else upto i (fun j => .int .i64 (en ((gr o).cmp j))) (.int .i64 0) j) (upto i IV (.slice none 0 0)) (upto i (fun j => .bool (o j).arr) (.bool false)) (upto i (fun j => .bool (o j).isf) (.bool false)) (upto i (fun j => .pointer (some ⟨CB j, 0, none⟩)) (.pointer none)) wx)
              case first =>
                have p0 := HS2.out.r0.cell hin'
                have q0 := HS2.out.r0.frozen i
                by_cases hlt : s < i
                · have hlt' : (s : Int) < i := by omega
                  have HLT : Hid ((o i).sp % (i + 1) < i) := HSD.out ▸ hlt
                  clear hlt
                  go_wp2_with fail
                  go_meet
                  case rel =>
                    refine (HS2.out.set0 i _).congr (fun j _ => ?_) (fun _ _ => rfl) (fun _ _ => rfl) (fun _ _ => rfl) (fun _ _ => rfl) (fun _ _ => rfl)
                    rw [HSP.out, pk_lt hip HLT.out, ← HSD.out]
                    by_cases e : j = i
                    · rw [if_pos e, if_pos e]; rfl
                    · rw [if_neg e, if_neg e, if_neg e]
                · have hlt' : ¬ (s : Int) < i := by omega
                  have HLT : Hid (¬ (o i).sp % (i + 1) < i) := HSD.out ▸ hlt
                  clear hlt
                  go_wp2_with fail
                  go_meet
                  case rel =>
                    rw [HSP.out, pk_ge HLT.out]
                    exact HS2.out
              case rest =>
                rename World => w3
                have HS3 : Hid (St w N n W2 (S + 1) _ _ _ _ _ _ w3) := hcut
                clear hcut
                have hr3 := HNR.out.of_block (w' := w3) (HS3.out.stay S hNS (by omega))
                clear y3 HS2
                have y3 := hr3.cell (i := 3) (by omega)
                simp only [ndF] at y3
                clear hr3
                go_upto_if 95 with fail
                obtain ⟨k, hk⟩ : ∃ k, k = (o i).cp % (i + 1) := ⟨_, rfl⟩
                have hrs : ((o i).cp : Int) % ((i : Int) + 1) = (k : Int) := by rw [hk]; rfl
                rw [hrs]
                have HSK : Hid (k = (o i).cp % (i + 1)) := hk
                clear y3 hrs hk
                go_cut [] from 87 to 95 (fun wx => St w N n W2 (S + 1) (fun j => if j = i then .int .i64 (en ((gr o).sup i)) else upto i (fun j => .int .i64 (en ((gr o).sup j))) (.int .i64 0) j) (fun j => if j = i then .int .i64 (en ((gr o).cmp i)) else upto i (fun j => .int .i64 (en ((gr o).cmp j))) (.int .i64 0) j) (upto i IV (.slice none 0 0)) (upto i (fun j => .bool (o j).arr) (.bool false)) (upto i (fun j => .bool (o j).isf) (.bool false)) (upto i (fun j => .pointer (some ⟨CB j, 0, none⟩)) (.pointer none)) wx)
                case first =>
                  have p1 := HS3.out.r1.cell hin'
                  have q1 := HS3.out.r1.frozen i
                  by_cases hlt : k < i
                  · have hlt' : (k : Int) < i := by omega
                    have HLT : Hid ((o i).cp % (i + 1) < i) := HSK.out ▸ hlt
                    clear hlt
                    go_wp2_with fail
                    go_meet
                    case rel =>
                      refine (HS3.out.set1 i _).congr (fun _ _ => rfl) (fun j _ => ?_) (fun _ _ => rfl) (fun _ _ => rfl) (fun _ _ => rfl) (fun _ _ => rfl)
                      rw [HCP.out, pk_lt hip HLT.out, ← HSK.out]
                      by_cases e : j = i
                      · rw [if_pos e, if_pos e]; rfl
                      · rw [if_neg e, if_neg e, if_neg e]
                  · have hlt' : ¬ (k : Int) < i := by omega
                    have HLT : Hid (¬ (o i).cp % (i + 1) < i) := HSK.out ▸ hlt
                    clear hlt
                    go_wp2_with fail
                    go_meet
                    case rel =>
                      rw [HCP.out, pk_ge HLT.out]
                      exact HS3.out
                case rest =>
                  rename World => w4
                  have HS4 : Hid (St w N n W2 (S + 1) _ _ _ _ _ _ w4) := hcut
                  clear hcut HS3
                  go_wp2_with fail
                  have HM : Hid ((gr o).m i = min (o i).l (bud o i)) := by show tk i (o i).l (bud o i) = _; unfold tk; rw [if_neg (by omega)]
                  have hbud := bud_le o i
                  go_loopw [14, 19] (fun s14 s19 wx => ∃ (q r : Nat) (iv : Value), q ≤ (gr o).m i ∧ q + r = bud o i ∧ s14 = .int .i64 r ∧ s19 = .int .i64 q ∧ St w N n W2 (S + 1) (fun j => if j = i then .int .i64 (en ((gr o).sup i)) else upto i (fun j => .int .i64 (en ((gr o).sup j))) (.int .i64 0) j) (fun j => if j = i then .int .i64 (en ((gr o).cmp i)) else upto i (fun j => .int .i64 (en ((gr o).cmp j))) (.int .i64 0) j) (fun j => if j = i then iv else upto i IV (.slice none 0 0) j) (upto i (fun j => .bool (o j).arr) (.bool false)) (upto i (fun j => .bool (o j).isf) (.bool false)) (upto i (fun j => .pointer (some ⟨CB j, 0, none⟩)) (.pointer none)) wx ∧ wx.ownsRow (S + 1) 3 1 iv q ((List.range q).map (fun j => Value.int .i64 ((gr o).f i j)))) (fun _ s _ => 10 - (intOf s).toNat)
                  case atStart =>
                    refine ⟨0, bud o i, .slice none 0 0, by omega, by omega, rfl, rfl, HS4.out.congr (fun _ _ => rfl) (fun _ _ => rfl) (fun j _ => ?_) (fun _ _ => rfl) (fun _ _ => rfl) (fun _ _ => rfl), World.ownsRow_nil _ _ _ _⟩
                    by_cases e : j = i
                    · rw [if_pos e, upto_ge _ _ (by omega)]
                    · rw [if_neg e]
                  case round =>
                    rename World => wx
                    obtain ⟨q, r, iv, hqm, hqr, rfl, rfl, hSq, hOwn⟩ := hrel
                    have hrx := HNR.out.of_block (w' := wx) (hSq.stay S hNS (by omega))
                    have y4 := hrx.cell (i := 4) (by omega)
                    simp only [ndF] at y4
                    obtain ⟨IA, ic, rfl⟩ := owns_form hOwn
                    have p2 := hSq.r2.cell hin'
                    have q2 := hSq.r2.frozen i
                    rw [if_pos rfl] at p2
                    have hN2 : N + 2 < wx.heap.size := hSq.r2.lt
                    have hSx := hSq.sz
                    have HSq : Hid (St w N n W2 (S + 1) _ _ _ _ _ _ wx) := hSq
                    have HOwn : Hid (wx.ownsRow (S + 1) 3 1 (.slice IA q ic) q ((List.range q).map (fun j => Value.int .i64 ((gr o).f i j)))) := hOwn
                    have HQR : Hid (q + r = bud o i) := hqr
                    have hq11 : q < 11 := by omega
                    have HQM : Hid (q ≤ (gr o).m i) := hqm
                    clear hSq hOwn hrx hqr hqm HS4
                    by_cases hqm : q < (gr o).m i
                    · have hm2 := HM.out
                      have hqr := HQR.out
                      have hql : q < (o i).l := by omega
                      have hql' : (q : Int) < (o i).l := by omega
                      have hr0 : 0 < r := by omega
                      have hr0' : (0 : Int) < r := by omega
                      have hr10 : (r : Int) ≤ 10 := by omega
                      have hq10 : q < 10 := by omega
                      obtain ⟨ib, io, hA, hib, hce⟩ := hif (by omega)
                      obtain ⟨ce, hc256⟩ := hce q hql
                      rw [hA] at y4
                      have cq := (HSq.out.bel.cell (p := ⟨ib, io + q, none⟩) (by show ib < N; rw [← HNN.out]; exact hib)).trans ce
                      have hibx : ib < N := by rw [← HNN.out]; exact hib
                      obtain ⟨z, hz⟩ : ∃ z, z = (gr o).f i q := ⟨_, rfl⟩
                      have hze : (((o i).I q : Nat) : Int) % (i : Int) = (z : Int) := by rw [hz]; rfl
                      have HZ : Hid (z = (gr o).f i q) := hz
                      clear hm2 hqr hA hce ce hz
                      go_upto_region 29 with fail
                      go_cut [] from 100 to 110 (fun wy => ∃ iv, St w N n W2 (S + 1) (fun j => if j = i then .int .i64 (en ((gr o).sup i)) else upto i (fun j => .int .i64 (en ((gr o).sup j))) (.int .i64 0) j) (fun j => if j = i then .int .i64 (en ((gr o).cmp i)) else upto i (fun j => .int .i64 (en ((gr o).cmp j))) (.int .i64 0) j) (fun j => if j = i then iv else upto i IV (.slice none 0 0) j) (upto i (fun j => .bool (o j).arr) (.bool false)) (upto i (fun j => .bool (o j).isf) (.bool false)) (upto i (fun j => .pointer (some ⟨CB j, 0, none⟩)) (.pointer none)) wy ∧ wy.ownsRow (S + 1) 3 1 iv (q + 1) ((List.range (q + 1)).map (fun j => Value.int .i64 ((gr o).f i j))))
                      case first =>
                        have hine : ¬ i = 0 := by omega
                        have HZE : Hid ((IntKind.i64.wrap (((o i).I q : Nat) : Int)).tmod (i : Int) = (z : Int)) := by
                          unfold Hid
                          rw [show IntKind.i64.wrap (((o i).I q : Nat) : Int) = (((o i).I q : Nat) : Int) from by rw [IntKind.wrap_i64]; omega, Int.tmod_eq_emod_of_nonneg (by omega)]
                          exact hze
                        go_region_law (refine step_app rfl rfl wx _ (S + 1) (.slice IA q ic) q _ z (by rw [HZE.out]; rfl) HOwn.out hq11 hSx (by simp [Act.eval]) (by simp [Act.eval]) ?_; intro g2 cap2 w5 hown5 hgr5; have k5 := grown_below hSx HOwn.out hgr5; have p5 := (k5.cell (p := ⟨N + 2, i, none⟩) (by show N + 2 < S + 1; omega)).trans p2; have q5 := (k5.frozen (p := ⟨N + 2, i, none⟩) (by show N + 2 < S + 1; omega)).trans q2)
                        all_goals (go_wp2_with fail)
                        all_goals go_meet
                        all_goals (
                          refine ⟨.slice (some ⟨g2, 0, none⟩) (q + 1) cap2, ((HSq.out.keep k5).set2 i _).congr (fun _ _ => rfl) (fun _ _ => rfl) (fun j _ => ?_) (fun _ _ => rfl) (fun _ _ => rfl) (fun _ _ => rfl), ?_⟩
                          · by_cases e : j = i
                            · rw [if_pos e, if_pos e]
                            · rw [if_neg e, if_neg e, if_neg e]
                          · rw [List.range_succ, List.map_append, List.map_singleton, ← HZ.out]
                            exact ownsRow_setCell_below hown5 (by show N + 2 < S + 1; omega) _)
                      case rest =>
                        obtain ⟨iv5, hS5, hO5⟩ := hcut
                        have HS5 : Hid (St w N n W2 (S + 1) _ _ _ _ _ _ wc) := hS5
                        have HO5 : Hid (wc.ownsRow (S + 1) 3 1 iv5 (q + 1) ((List.range (q + 1)).map (fun j => Value.int .i64 ((gr o).f i j)))) := hO5
                        clear hS5 hO5 p2 q2 y4 cq
                        go_wp2_with fail
                        go_roundw
                        case rel => exact ⟨q + 1, r - 1, iv5, by omega, by have := HQR.out; omega, by rw [Int.ofNat_sub hr0]; rfl, by go_num, HS5.out, HO5.out⟩
                        case measure => simp [intOf]; omega
                    · have hm2 := HM.out
                      have hqr := HQR.out
                      have hqm2 := HQM.out
                      have hqe : q = (gr o).m i := by omega
                      have HQE : Hid (q = (gr o).m i) := hqe
                      clear hqm HQM
                      by_cases hql : q < (o i).l
                      · have hql' : (q : Int) < (o i).l := by omega
                        have hr0 : ¬ 0 < r := by omega
                        have hr0' : ¬ (0 : Int) < r := by omega
                        clear hm2 hqr hqm2 hqe
                        go_wp2_with fail
                        go_meet
                        case rel =>
                          refine ⟨_, ?_, HSq.out, ?_⟩
                          · rw [bud_succ, ← HQR.out, ← HQE.out, Nat.add_sub_cancel_left]
                          · rw [← HQE.out]; exact ints_of_owns HOwn.out
                      · have hql' : ¬ (q : Int) < (o i).l := by omega
                        clear hm2 hqr hqm2 hqe
                        go_wp2_with fail
                        go_meet
                        case rel =>
                          refine ⟨_, ?_, HSq.out, ?_⟩
                          · rw [bud_succ, ← HQR.out, ← HQE.out, Nat.add_sub_cancel_left]
                          · rw [← HQE.out]; exact ints_of_owns HOwn.out
          case rest =>
            clear hif
            rename World => w5
            obtain ⟨iv, rfl, hS5, hI5⟩ := hcut
            have hr5 := HNR.out.of_block (w' := w5) (hS5.stay S hNS (by omega))
            have y0 := hr5.cell (i := 0) (by omega)
            have y1 := hr5.cell (i := 1) (by omega)
            simp only [ndF] at y0 y1
            have p3 := hS5.r3.cell hin'
            have q3 := hS5.r3.frozen i
            have p4 := hS5.r4.cell hin'
            have q4 := hS5.r4.frozen i
            have n3 : ¬ S = N + 3 := by omega
            have n4 : ¬ S = N + 4 := by omega
            have HS5 : Hid (St w N n W2 (S + 1) _ _ _ _ _ _ w5) := hS5
            have HI5 : Hid (Ints w5 (S + 1) w5.heap.size iv ((gr o).m i) ((gr o).f i)) := hI5
            clear hS5 hI5 hr5
            go_upto_if 141 with fail
            obtain ⟨w7, hw7⟩ : ∃ w7, w7 = (w5.setCell ⟨N + 3, i, none⟩ (.bool (o i).arr)).setCell ⟨N + 4, i, none⟩ (.bool (o i).isf) := ⟨_, rfl⟩
            obtain ⟨hS7, hI7, hIv7, hCl7, hr7⟩ := mid_round HS5.out HI5.out HIv2.out HCl2.out (gr_is o i) HNR.out hNS (.bool (o i).arr) (.bool (o i).isf) hw7
            rw [← hw7]
            have y1 := hr7.cell (i := 1) (by omega)
            simp only [ndF] at y1
            have HS7 : Hid (St w N n w7 w7.heap.size (fun j => if j = i then .int .i64 (en ((gr o).sup i)) else upto i (fun j => .int .i64 (en ((gr o).sup j))) (.int .i64 0) j) (fun j => if j = i then .int .i64 (en ((gr o).cmp i)) else upto i (fun j => .int .i64 (en ((gr o).cmp j))) (.int .i64 0) j) (fun j => if j = i then iv else upto i IV (.slice none 0 0) j) (fun j => if j = i then .bool (o i).arr else upto i (fun j => .bool (o j).arr) (.bool false) j) (fun j => if j = i then .bool (o i).isf else upto i (fun j => .bool (o j).isf) (.bool false) j) (upto i (fun j => .pointer (some ⟨CB j, 0, none⟩)) (.pointer none)) w7) := hS7
            have HI7 : Hid (Ints w7 (N + 6) w7.heap.size iv ((gr o).m i) ((gr o).f i)) := hI7
            have HIv7 : Hid (∀ j, j < i → Ints w7 (N + 6) w7.heap.size (IV j) ((gr o).m j) ((gr o).f j)) := hIv7
            have HCl7 : Hid (∀ j, j < i → ClsIn w7 (N + 6) w7.heap.size (gr o) CB j) := hCl7
            clear hw7 hS7 hI7 hIv7 hCl7 hr7 HS5 HI5 HIv2 HCl2 HNR y0 p3 q3 p4 q4 n3 n4 hs2
            go_cut [20, 65] from 130 to 141 (fun s _ wx => s = .string (nm (o i).arr) ∧ wx = w7)
            case first =>
              cases harr : (o i).arr with
              | true =>
                go_wp2_with fail
                go_meet
                case rel => exact ⟨by rw [harr]; rfl, rfl⟩
              | false =>
                go_wp2_with fail
                go_meet
                case rel => exact ⟨by rw [harr]; rfl, rfl⟩
            case rest =>
              obtain ⟨rfl, hwc⟩ := hcut
              have hwc' := hwc.symm
              clear hwc
              subst hwc'
              go_upto_if 143 with fail
              go_cut [21] from 130 to 143 (fun s wx => s = .int .u16 (fl (o i).isf) ∧ wx = w7)
              case first =>
                cases harr : (o i).isf with
                | true =>
                  go_wp2_with fail
                  go_meet
                  case rel => exact ⟨by rw [harr]; rfl, rfl⟩
                | false =>
                  go_wp2_with fail
                  go_meet
                  case rel => exact ⟨by rw [harr]; rfl, rfl⟩
              case rest =>
                obtain ⟨rfl, hwc⟩ := hcut
                have hwc' := hwc.symm
                clear hwc
                subst hwc'
                obtain ⟨cs, hbuild, hcs, k0, k3, k4, k5, k8⟩ := build43 (nm (o i).arr) (fl (o i).isf)
                go_upto_region 40 with (refine wpList_build rfl 43 #[(0, Operand.tmp 144), (3, Operand.tmp 145)] rfl _ _ (by simp [Act.eval]) (hbuild _) ?_)
                obtain ⟨w8, hw8⟩ : ∃ w8, w8 = w7.alloc (Obj.cells cs 43) := ⟨_, rfl⟩
                rw [← hw8]
                have HR8 : Hid (w8.rowIs w7.heap.size 43 20 (fun k => cs.getD k undef)) := class_row hw8 hcs
                have HS8 : Hid (St w N n w7 w7.heap.size (fun j => if j = i then .int .i64 (en ((gr o).sup i)) else upto i (fun j => .int .i64 (en ((gr o).sup j))) (.int .i64 0) j) (fun j => if j = i then .int .i64 (en ((gr o).cmp i)) else upto i (fun j => .int .i64 (en ((gr o).cmp j))) (.int .i64 0) j) (fun j => if j = i then iv else upto i IV (.slice none 0 0) j) (fun j => if j = i then .bool (o i).arr else upto i (fun j => .bool (o j).arr) (.bool false) j) (fun j => if j = i then .bool (o i).isf else upto i (fun j => .bool (o j).isf) (.bool false) j) (upto i (fun j => .pointer (some ⟨CB j, 0, none⟩)) (.pointer none)) w8) := hw8 ▸ HS7.out.alloc _
                have HK : Hid (cs.getD 0 undef = .string (nm (o i).arr) ∧ cs.getD 3 undef = .int .u16 (fl (o i).isf) ∧ cs.getD 4 undef = .pointer none ∧ cs.getD 5 undef = .slice none 0 0 ∧ cs.getD 8 undef = .pointer none) := ⟨getD_of k0, getD_of k3, getD_of k4, getD_of k5, getD_of k8⟩
                clear hbuild hcs k0 k3 k4 k5 k8 hw8 y1
                obtain ⟨e0, he0⟩ : ∃ e0, e0 = en ((gr o).sup i) := ⟨_, rfl⟩
                have p0 := HS8.out.r0.cell hin'
                rw [if_pos rfl, ← he0] at p0
                have HE0 : Hid (e0 = en ((gr o).sup i)) := he0
                clear he0
                have hNC := HS7.out.nsz
                generalize w7.heap.size = C at *
                go_upto_if 152 with fail
                go_cut [] from 144 to 152 (fun wx => St w N n w7 C (fun j => if j = i then .int .i64 (en ((gr o).sup i)) else upto i (fun j => .int .i64 (en ((gr o).sup j))) (.int .i64 0) j) (fun j => if j = i then .int .i64 (en ((gr o).cmp i)) else upto i (fun j => .int .i64 (en ((gr o).cmp j))) (.int .i64 0) j) (fun j => if j = i then iv else upto i IV (.slice none 0 0) j) (fun j => if j = i then .bool (o i).arr else upto i (fun j => .bool (o j).arr) (.bool false) j) (fun j => if j = i then .bool (o i).isf else upto i (fun j => .bool (o j).isf) (.bool false) j) (upto i (fun j => .pointer (some ⟨CB j, 0, none⟩)) (.pointer none)) wx ∧ ∃ F : Nat → Value, wx.rowIs C 43 20 F ∧ F 0 = .string (nm (o i).arr) ∧ F 3 = .int .u16 (fl (o i).isf) ∧ F 4 = ptr CB ((gr o).sup i) ∧ F 5 = .slice none 0 0 ∧ F 8 = .pointer none)
                case first =>
                  cases hsup : (gr o).sup i with
                  | none =>
                    have hneg : ¬ (0 : Int) ≤ e0 := by rw [HE0.out, hsup]; decide
                    go_wp2_with fail
                    go_meet
                    case rel => exact ⟨HS8.out, _, HR8.out, HK.out.1, HK.out.2.1, by rw [hsup]; exact HK.out.2.2.1, HK.out.2.2.2.1, HK.out.2.2.2.2⟩
                  | some q =>
                    have hqi : q < i := (gr_is o n i hin').1 q hsup
                    obtain rfl : e0 = (q : Int) := by rw [HE0.out, hsup]; rfl
                    have hpos : (0 : Int) ≤ (q : Int) := by omega
                    have hqn : (q : Int) < (n : Int) := by omega
                    have p5 := HS8.out.r5.cell (i := q) (by omega)
                    rw [upto_lt _ _ hqi] at p5
                    have c4 := HR8.out.cell (i := 4) (by omega)
                    have z4 := HR8.out.frozen 4
                    have HSU : Hid ((gr o).sup i = some q) := hsup
                    clear hsup
                    go_wp2_with fail
                    go_meet
                    case rel =>
                      refine ⟨HS8.out.setNew (Nat.le_refl _) _, _, HR8.out.set 4 _, HK.out.1, HK.out.2.1, ?_, HK.out.2.2.2.1, HK.out.2.2.2.2⟩
                      rw [HSU.out]
                      rfl
                case rest =>
                  rename World => w9
                  obtain ⟨hS9, F, hR9, f0, f3, f4, f5, f8⟩ := hcut
                  have HS9 : Hid (St w N n w7 C (fun j => if j = i then .int .i64 (en ((gr o).sup i)) else upto i (fun j => .int .i64 (en ((gr o).sup j))) (.int .i64 0) j) (fun j => if j = i then .int .i64 (en ((gr o).cmp i)) else upto i (fun j => .int .i64 (en ((gr o).cmp j))) (.int .i64 0) j) (fun j => if j = i then iv else upto i IV (.slice none 0 0) j) (fun j => if j = i then .bool (o i).arr else upto i (fun j => .bool (o j).arr) (.bool false) j) (fun j => if j = i then .bool (o i).isf else upto i (fun j => .bool (o j).isf) (.bool false) j) (upto i (fun j => .pointer (some ⟨CB j, 0, none⟩)) (.pointer none)) w9) := hS9
                  have HR9 : Hid (w9.rowIs C 43 20 F) := hR9
                  have HF9 : Hid (F 0 = .string (nm (o i).arr) ∧ F 3 = .int .u16 (fl (o i).isf) ∧ F 4 = ptr CB ((gr o).sup i) ∧ F 5 = .slice none 0 0 ∧ F 8 = .pointer none) := ⟨f0, f3, f4, f5, f8⟩
                  clear hS9 hR9 f0 f3 f4 f5 f8 HS8 HR8 HK p0 HE0
                  obtain ⟨e1, he1⟩ : ∃ e1, e1 = en ((gr o).cmp i) := ⟨_, rfl⟩
                  have p1 := HS9.out.r1.cell hin'
                  rw [if_pos rfl, ← he1] at p1
                  have HE1 : Hid (e1 = en ((gr o).cmp i)) := he1
                  clear he1
                  go_upto_if 167 with fail
                  go_cut [] from 144 to 167 (fun wx => St w N n w7 C (fun j => if j = i then .int .i64 (en ((gr o).sup i)) else upto i (fun j => .int .i64 (en ((gr o).sup j))) (.int .i64 0) j) (fun j => if j = i then .int .i64 (en ((gr o).cmp i)) else upto i (fun j => .int .i64 (en ((gr o).cmp j))) (.int .i64 0) j) (fun j => if j = i then iv else upto i IV (.slice none 0 0) j) (fun j => if j = i then .bool (o i).arr else upto i (fun j => .bool (o j).arr) (.bool false) j) (fun j => if j = i then .bool (o i).isf else upto i (fun j => .bool (o j).isf) (.bool false) j) (upto i (fun j => .pointer (some ⟨CB j, 0, none⟩)) (.pointer none)) wx ∧ ∃ F : Nat → Value, wx.rowIs C 43 20 F ∧ F 0 = .string (nm (o i).arr) ∧ F 3 = .int .u16 (fl (o i).isf) ∧ F 4 = ptr CB ((gr o).sup i) ∧ F 5 = .slice none 0 0 ∧ F 8 = ptr CB ((gr o).cmp i))
                  case first =>
                    cases hsup : (gr o).cmp i with
                    | none =>
                      have hneg : ¬ (0 : Int) ≤ e1 := by rw [HE1.out, hsup]; decide
                      go_wp2_with fail
                      go_meet
                      case rel => exact ⟨HS9.out, _, HR9.out, HF9.out.1, HF9.out.2.1, HF9.out.2.2.1, HF9.out.2.2.2.1, by rw [hsup]; exact HF9.out.2.2.2.2⟩
                    | some q =>
                      have hqi : q < i := (gr_is o n i hin').2.1 q hsup
                      obtain rfl : e1 = (q : Int) := by rw [HE1.out, hsup]; rfl
                      have hpos : (0 : Int) ≤ (q : Int) := by omega
                      have hqn : (q : Int) < (n : Int) := by omega
                      have p5 := HS9.out.r5.cell (i := q) (by omega)
                      rw [upto_lt _ _ hqi] at p5
                      have c4 := HR9.out.cell (i := 8) (by omega)
                      have z4 := HR9.out.frozen 8
                      have HSU : Hid ((gr o).cmp i = some q) := hsup
                      clear hsup
                      go_wp2_with fail
                      go_meet
                      case rel =>
                        refine ⟨HS9.out.setNew (Nat.le_refl _) _, _, HR9.out.set 8 _, HF9.out.1, HF9.out.2.1, HF9.out.2.2.1, HF9.out.2.2.2.1, ?_⟩
                        rw [HSU.out]
                        rfl
                  case rest =>
                    rename World => wa
                    obtain ⟨hSa, F, hRa, f0, f3, f4, f5, f8⟩ := hcut
                    obtain ⟨IA, ic, rfl, hIA⟩ := HI7.out
                    have p2 := hSa.r2.cell hin'
                    rw [if_pos rfl] at p2
                    have HSa : Hid (St w N n w7 C (fun j => if j = i then .int .i64 (en ((gr o).sup i)) else upto i (fun j => .int .i64 (en ((gr o).sup j))) (.int .i64 0) j) (fun j => if j = i then .int .i64 (en ((gr o).cmp i)) else upto i (fun j => .int .i64 (en ((gr o).cmp j))) (.int .i64 0) j) (fun j => if j = i then .slice IA ((gr o).m i) ic else upto i IV (.slice none 0 0) j) (fun j => if j = i then .bool (o i).arr else upto i (fun j => .bool (o j).arr) (.bool false) j) (fun j => if j = i then .bool (o i).isf else upto i (fun j => .bool (o j).isf) (.bool false) j) (upto i (fun j => .pointer (some ⟨CB j, 0, none⟩)) (.pointer none)) wa) := hSa
                    have HRa : Hid (wa.rowIs C 43 20 F) := hRa
                    have HFa : Hid (F 0 = .string (nm (o i).arr) ∧ F 3 = .int .u16 (fl (o i).isf) ∧ F 4 = ptr CB ((gr o).sup i) ∧ F 5 = .slice none 0 0 ∧ F 8 = ptr CB ((gr o).cmp i)) := ⟨f0, f3, f4, f5, f8⟩
                    have hM10 := gr_m_le o i
                    have hCa : C < wa.heap.size := hRa.lt
                    have hfi : ∀ q, q < (gr o).m i → (gr o).f i q < i := (gr_is o n i hin').2.2
                    clear hSa hRa f0 f3 f4 f5 f8 HS9 HR9 HF9 p1 HE1 HS7
                    generalize hMM : (gr o).m i = M at *
                    have HMM : Hid ((gr o).m i = M) := hMM
                    clear hMM
                    go_upto_if 183 with fail
                    go_cut [] from 178 to 183 (fun wx => St w N n w7 C (fun j => if j = i then .int .i64 (en ((gr o).sup i)) else upto i (fun j => .int .i64 (en ((gr o).sup j))) (.int .i64 0) j) (fun j => if j = i then .int .i64 (en ((gr o).cmp i)) else upto i (fun j => .int .i64 (en ((gr o).cmp j))) (.int .i64 0) j) (fun j => if j = i then .slice IA M ic else upto i IV (.slice none 0 0) j) (fun j => if j = i then .bool (o i).arr else upto i (fun j => .bool (o j).arr) (.bool false) j) (fun j => if j = i then .bool (o i).isf else upto i (fun j => .bool (o j).isf) (.bool false) j) (upto i (fun j => .pointer (some ⟨CB j, 0, none⟩)) (.pointer none)) wx ∧ ∃ (F : Nat → Value) (A : Option Addr) (c : Nat), wx.rowIs C 43 20 F ∧ F 0 = .string (nm (o i).arr) ∧ F 3 = .int .u16 (fl (o i).isf) ∧ F 4 = ptr CB ((gr o).sup i) ∧ F 5 = .slice A M c ∧ F 8 = ptr CB ((gr o).cmp i) ∧ (0 < M → ∃ ib, A = some ⟨ib, 0, none⟩ ∧ C < ib ∧ ib < wx.heap.size ∧ ∀ j, j < M → wx.cell? ⟨ib, j, none⟩ = some (ptr CB (some ((gr o).f i j)))))
                    case first =>
                      by_cases hM0 : 0 < M
                      · have hM0' : (0 : Int) < M := by omega
                        obtain ⟨ib, rfl, hib1, hib2, hicell⟩ := hIA hM0
                        have hmkM := run_make_row' (P := Yba.prog) 26 31 (.pointer none) 8 Yba.underlying26 info31 rfl .i64 .i64 M (by omega) (by omega)
                        have c5 := HRa.out.cell (i := 5) (by omega)
                        have z5 := HRa.out.frozen 5
                        have HIC : Hid (∀ q, q < M → w7.cell? ⟨ib, q, none⟩ = some (.int .i64 ((gr o).f i q))) := hicell
                        clear hIA hicell
                        rw [show decide (0 < M) = true from decide_eq_true hM0]
                        go_wp2_with fail
                        have hD := World.rowIs_made (wa.setCell ⟨C, 5, none⟩ (.slice (some ⟨wa.heap.size, 0, none⟩) M M)) (.pointer none) M 31
                        rw [St.size_set] at hD
                        have hSm := (HSa.out.setNew (a := ⟨C, 5, none⟩) (Nat.le_refl _) (.slice (some ⟨wa.heap.size, 0, none⟩) M M)).alloc (Obj.cells (madeCells #[.pointer none] M) 31)
                        have hRm := (HRa.out.set 5 (.slice (some ⟨wa.heap.size, 0, none⟩) M M)).alloc (Obj.cells (madeCells #[.pointer none] M) 31)
                        generalize (wa.setCell ⟨C, 5, none⟩ (.slice (some ⟨wa.heap.size, 0, none⟩) M M)).alloc (Obj.cells (madeCells #[.pointer none] M) 31) = wm at *
                        clear p2 c5 z5 HSa HRa hmkM
                        generalize wa.heap.size = D at *
                        have HD : Hid (wm.rowIs D 31 M (fun _ => .pointer none)) := hD
                        have HSm : Hid (St w N n w7 C (fun j => if j = i then .int .i64 (en ((gr o).sup i)) else upto i (fun j => .int .i64 (en ((gr o).sup j))) (.int .i64 0) j) (fun j => if j = i then .int .i64 (en ((gr o).cmp i)) else upto i (fun j => .int .i64 (en ((gr o).cmp j))) (.int .i64 0) j) (fun j => if j = i then .slice (some ⟨ib, 0, none⟩) M ic else upto i IV (.slice none 0 0) j) (fun j => if j = i then .bool (o i).arr else upto i (fun j => .bool (o j).arr) (.bool false) j) (fun j => if j = i then .bool (o i).isf else upto i (fun j => .bool (o j).isf) (.bool false) j) (upto i (fun j => .pointer (some ⟨CB j, 0, none⟩)) (.pointer none)) wm) := hSm
                        have HRm : Hid (wm.rowIs C 43 20 (fun j => if j = 5 then .slice (some ⟨D, 0, none⟩) M M else F j)) := hRm
                        clear hD hSm hRm
                        go_loopw [23] (fun s wx => ∃ q : Nat, q ≤ M ∧ s = .int .i64 q ∧ St w N n w7 C (fun j => if j = i then .int .i64 (en ((gr o).sup i)) else upto i (fun j => .int .i64 (en ((gr o).sup j))) (.int .i64 0) j) (fun j => if j = i then .int .i64 (en ((gr o).cmp i)) else upto i (fun j => .int .i64 (en ((gr o).cmp j))) (.int .i64 0) j) (fun j => if j = i then .slice (some ⟨ib, 0, none⟩) M ic else upto i IV (.slice none 0 0) j) (fun j => if j = i then .bool (o i).arr else upto i (fun j => .bool (o j).arr) (.bool false) j) (fun j => if j = i then .bool (o i).isf else upto i (fun j => .bool (o j).isf) (.bool false) j) (upto i (fun j => .pointer (some ⟨CB j, 0, none⟩)) (.pointer none)) wx ∧ wx.rowIs C 43 20 (fun j => if j = 5 then .slice (some ⟨D, 0, none⟩) M M else F j) ∧ wx.rowIs D 31 M (upto q (fun j => ptr CB (some ((gr o).f i j))) (.pointer none))) (fun s _ => M - (intOf s).toNat)
                        case atStart => exact ⟨0, by omega, rfl, HSm.out, HRm.out, HD.out.congr fun j _ => (upto_zero _ _ _).symm⟩
                        case round =>
                          rename World => wx
                          obtain ⟨q, hqM, rfl, hSx, hRx, hDx⟩ := hrel
                          have p2 := hSx.r2.cell hin'
                          rw [if_pos rfl] at p2
                          by_cases hq : q < M
                          · have hq' : (q : Int) < M := by omega
                            obtain ⟨z, hz⟩ : ∃ z, z = (gr o).f i q := ⟨_, rfl⟩
                            have hzi : z < i := hz ▸ hfi q hq
                            have hzn : (z : Int) < n := by omega
                            have pq := (World.cell?_of_block (w := w7) (a := ⟨ib, q, none⟩) (hSx.stay ib hib1 hib2)).trans (HIC.out q hq)
                            rw [← hz] at pq
                            have p5 := hSx.r5.cell (i := z) (by omega)
                            rw [upto_lt _ _ hzi] at p5
                            have c5 := hRx.cell (i := 5) (by omega)
                            rw [if_pos rfl] at c5
                            have d0 := hDx.cell hq
                            have d1 := hDx.frozen q
                            have HSx : Hid (St w N n w7 C (fun j => if j = i then .int .i64 (en ((gr o).sup i)) else upto i (fun j => .int .i64 (en ((gr o).sup j))) (.int .i64 0) j) (fun j => if j = i then .int .i64 (en ((gr o).cmp i)) else upto i (fun j => .int .i64 (en ((gr o).cmp j))) (.int .i64 0) j) (fun j => if j = i then .slice (some ⟨ib, 0, none⟩) M ic else upto i IV (.slice none 0 0) j) (fun j => if j = i then .bool (o i).arr else upto i (fun j => .bool (o j).arr) (.bool false) j) (fun j => if j = i then .bool (o i).isf else upto i (fun j => .bool (o j).isf) (.bool false) j) (upto i (fun j => .pointer (some ⟨CB j, 0, none⟩)) (.pointer none)) wx) := hSx
                            have HRx : Hid (wx.rowIs C 43 20 (fun j => if j = 5 then .slice (some ⟨D, 0, none⟩) M M else F j)) := hRx
                            have HDx : Hid (wx.rowIs D 31 M (upto q (fun j => ptr CB (some ((gr o).f i j))) (.pointer none))) := hDx
                            have HZ : Hid (z = (gr o).f i q) := hz
                            clear hSx hRx hDx hz HSm HRm HD
                            have m1 : ¬ D = C := by omega
                            have m2 : ¬ D = N + 2 := by omega
                            have m3 : ¬ D = ib := by omega
                            have m4 : ¬ D = N + 5 := by omega
                            go_upto_region 49 with fail
                            go_region_held3 (fun w' => w'.cell? ⟨C, 5, none⟩ = some (.slice (some ⟨D, 0, none⟩) M M) ∧ w'.cell? ⟨N + 2, i, none⟩ = some (.slice (some ⟨ib, 0, none⟩) M ic) ∧ w'.cell? ⟨ib, q, none⟩ = some (.int .i64 z) ∧ w'.cell? ⟨N + 5, z, none⟩ = some (.pointer (some ⟨CB z, 0, none⟩))) (first | exact ⟨c5, p2, pq, p5⟩ | (simp [go_sem, c5, p2, pq, p5]))
                              (fail)
                            go_wp2_with fail
                            go_roundw
                            case rel =>
                              refine ⟨q + 1, by omega, by go_num, (HSx.out.setNew (a := ⟨D, q, none⟩) (by show C ≤ D; omega) _).drew, (HRx.out.setOther (a := ⟨D, q, none⟩) (by show C ≠ D; omega) _).drew, (HDx.out.set q _).drew.congr fun j _ => ?_⟩
                              rw [HZ.out]
                              exact upto_succ q (fun j => ptr CB (some ((gr o).f i j))) _ j
                            case measure => simp [intOf]; omega
                          · have hq' : ¬ (q : Int) < M := by omega
                            have hDlt : D < wx.heap.size := hDx.lt
                            obtain rfl : q = M := by omega
                            have HSx : Hid (St w N n w7 C (fun j => if j = i then .int .i64 (en ((gr o).sup i)) else upto i (fun j => .int .i64 (en ((gr o).sup j))) (.int .i64 0) j) (fun j => if j = i then .int .i64 (en ((gr o).cmp i)) else upto i (fun j => .int .i64 (en ((gr o).cmp j))) (.int .i64 0) j) (fun j => if j = i then .slice (some ⟨ib, 0, none⟩) q ic else upto i IV (.slice none 0 0) j) (fun j => if j = i then .bool (o i).arr else upto i (fun j => .bool (o j).arr) (.bool false) j) (fun j => if j = i then .bool (o i).isf else upto i (fun j => .bool (o j).isf) (.bool false) j) (upto i (fun j => .pointer (some ⟨CB j, 0, none⟩)) (.pointer none)) wx) := hSx
                            have HRx : Hid (wx.rowIs C 43 20 (fun j => if j = 5 then .slice (some ⟨D, 0, none⟩) q q else F j)) := hRx
                            have HDx : Hid (wx.rowIs D 31 q (upto q (fun j => ptr CB (some ((gr o).f i j))) (.pointer none))) := hDx
                            clear hSx hRx hDx HSm HRm HD
                            go_wp2_with fail
                            go_meet
                            case rel =>
                              refine ⟨HSx.out, _, some ⟨D, 0, none⟩, q, HRx.out, HFa.out.1, HFa.out.2.1, HFa.out.2.2.1, rfl, HFa.out.2.2.2.2, fun _ => ⟨D, rfl, hCa, hDlt, fun j hj => ?_⟩⟩
                              rw [HDx.out.cell hj, upto_lt _ _ hj]
                      · have hM0' : ¬ (0 : Int) < M := by omega
                        go_wp2_with fail
                        go_meet
                        case rel =>
                          have e : M = 0 := by omega
                          exact ⟨HSa.out, F, none, 0, HRa.out, HFa.out.1, HFa.out.2.1, HFa.out.2.2.1, by rw [e]; exact HFa.out.2.2.2.1, HFa.out.2.2.2.2, fun h => absurd h hM0⟩
                    case rest =>
                      rename World => wb
                      obtain ⟨hSb, F2, A2, c2, hRb, f0, f3, f4, f5, f8, fI⟩ := hcut
                      have p5 := hSb.r5.cell hin'
                      have q5 := hSb.r5.frozen i
                      obtain rfl := HMM.out
                      have HEnd : Hid (Upto w N n o (i + 1) (wb.setCell ⟨N + 5, i, none⟩ (.pointer (some ⟨C, 0, none⟩)))) := round_end hSb HIv7.out HI7.out HCl7.out HInj.out hRb f0 f3 f4 f5 f8 fI
                      clear hSb hRb f0 f3 f4 f5 f8 fI HSa HRa HFa p2 hCa hfi hIA
                      go_wp2_with fail
                      go_roundw
                      case rel => exact ⟨i + 1, by omega, rfl, by go_num, HEnd.out⟩
                      case measure => simp [intOf]; omega
        · have hni : n = i := by omega
          subst hni
          have HU : Hid (Upto w N n o n wr) := hU
          clear hU hin hmk23 hmk24 hmk25 hmk26 hmk44 hU0
          go_wp2_with fail
          go_meet
          case rel => exact HU.out
    case rest =>
      rename World => wr
      refine ‹∀ (a : Act) (w : World), Code.wp _ _ _ a w → _› _ _ ?_
      exact part2 w wr N n o c t hn1 hn10 hc ht HNN.out hcut _ rfl rfl rfl rfl rfl rfl rfl rfl rfl rfl rfl
end Go.Proofs.Ybulkeyzu
