import Derived.Test.YbulkezawDoorEq
import Derived.Deep.DeepCutAuto
namespace Go.Proofs.YbulkezawDoor
open Go.RowKit

/-- one operation that builds a struct out of parts, by its run -/
theorem wp_build {P : Program} {o : Oper} {a : Act} {w : World} {K : Act → World → Prop} {Q : Exit → Act → World → Prop} (t : TypeId) (parts : Array (Nat × Operand)) (ho : o.op = Op.build t parts) (ps : Array (Nat × Value)) (v : Value)
    (hp : (parts.map fun x => (x.1, a.eval x.2)) = ps) (hrun : (Instr.build t ps).run P w = .ok v w) (h : K (a.put o.dst v) w) : o.wp P a w K Q := by
  subst hp
  unfold Oper.wp
  simp only [execOp, ho, Sem.run_bind, Sem.run_pure, hrun, Result.andThen_ok]
  simpa [Oper.upon] using h

theorem cell_new (W : World) (cs : Array Value) (t : TypeId) (n i : Nat) (h : n = W.heap.size) : (W.alloc (.cells cs t)).cell? ⟨n, i, none⟩ = cs[i]? := by
  subst h
  simp only [World.cell?]
  rw [Go.Deep.blk_alloc_new]
  rfl

theorem wpList_build {P : Program} {w : World} {ops : Array Oper} {rest : List Oper} {o : Oper} {a : Act} {Q : Exit → Act → World → Prop} (hg : o.guard = none) (t : TypeId) (parts : Array (Nat × Operand)) (ho : o.op = Op.build t parts) (ps : Array (Nat × Value)) (v : Value)
    (hp : (parts.map fun x => (x.1, a.eval x.2)) = ps) (hrun : (Instr.build t ps).run P w = .ok v w) (h : wpList P ops Q rest (a.put o.dst v) w) : wpList P ops Q (o :: rest) a w :=
  wpList_plain hg fun _ hK => wp_build t parts ho ps v hp hrun (hK _ _ h)

set_option maxRecDepth 100000 in
theorem build43 (xid : Int) (L : Option Addr) (n : Nat) : ∃ cs : Array Value, (∀ w, (Instr.build 43 #[(4, .int .u32 xid), (14, .slice L n n)]).run Ybad.prog w = .ok (.agg cs) w) ∧
    cs[4]? = some (.int .u32 xid) ∧ cs[227]? = some (.slice L n n) :=
  ⟨((match Ybad.prog.info? 43 with
      | some i => (match i.zero with
        | some z => z.cells
        | none => #[])
      | none => #[]).setIfInBounds 4 (.int .u32 xid)).setIfInBounds 227 (.slice L n n),
    fun w => by kernel_rfl, by kernel_rfl, by kernel_rfl⟩

theorem ans_miss {n : Nat} {o : Nat → Opt} {code lo : Int} {z z' : Option Addr} (h : ansTo n o code z (adr 0 lo z')) (hm : ∀ j, j < n → (o j).c ≠ code) : lo = 0 ∧ z' = none := by
  rcases h with ⟨i, hi, he, _⟩ | ⟨_, h⟩
  · exact absurd he (hm i hi)
  · simpa [adr] using h

theorem ans_hit {n m : Nat} {o : Nat → Opt} {code lo : Int} {z z' : Option Addr} (h : ansTo n o code z (adr 0 lo z')) (hm : m < n) (he : (o m).c = code) (hf : ∀ j, j < m → (o j).c ≠ code) : adr 0 lo z' = ansOf (o m) z := by
  rcases h with ⟨i, hi, he', hf', h⟩ | ⟨hno, _⟩
  · have : i = m := by
      rcases Nat.lt_trichotomy i m with h1 | h1 | h1
      · exact absurd he' (hf i h1)
      · exact h1
      · exact absurd he (hf' m h1)
    subst this
    exact h
  · exact absurd he (hno m hm)

theorem ans_hit4 {n m : Nat} {o : Nat → Opt} {code lo : Int} {z z' : Option Addr} (h : ansTo n o code z (adr 0 lo z')) (hm : m < n) (he : (o m).c = code) (hf : ∀ j, j < m → (o j).c ≠ code) (h4 : (o m).m = 4) :
    lo = lo4 ((o m).E 0) ((o m).E 1) ((o m).E 2) ((o m).E 3) ∧ z' = z := by
  have := ans_hit h hm he hf
  unfold ansOf at this
  rw [if_pos h4] at this
  simpa [adr] using this

theorem ans_hitn {n m : Nat} {o : Nat → Opt} {code lo : Int} {z z' : Option Addr} (h : ansTo n o code z (adr 0 lo z')) (hm : m < n) (he : (o m).c = code) (hf : ∀ j, j < m → (o j).c ≠ code) (h4 : (o m).m ≠ 4) : lo = 0 ∧ z' = none := by
  have := ans_hit h hm he hf
  unfold ansOf at this
  rw [if_neg h4] at this
  simpa [adr] using this

theorem Lst.isNone {w : World} {base n : Nat} {nl : Bool} {L : Option Addr} {A : Nat → Option Addr} {o : Nat → Opt} (h : Lst w base nl L n A o) : L.isNone = nl := by
  rcases h with ⟨h1, h2, _⟩ | ⟨h1, g, h2, _⟩
  · rw [h1, h2]; rfl
  · rw [h1, h2]; rfl
theorem BytesA.isNone {w : World} {base m : Nat} {nl : Bool} {A : Option Addr} {E : Nat → Int} (h : BytesA w base A nl m E) : A.isNone = nl := by
  rcases h with ⟨h1, h2, _⟩ | ⟨h1, g, h2, _⟩
  · rw [h1, h2]; rfl
  · rw [h1, h2]; rfl
theorem BytesA.drewN {w : World} {base m : Nat} {nl : Bool} {A : Option Addr} {E : Nat → Int} (h : BytesA w base A nl m E) (q : Nat) : BytesA (w.drewN q) base A nl m E := h

set_option maxRecDepth 100000 in
set_option maxHeartbeats 4000000 in
theorem law_walk (a : Option Addr) (n cap : Nat) (o : Nat → Opt) (code xid : Int) (z : Option Addr) (w : World) (hz : w.cell? ⟨0, 0, none⟩ = some (.pointer z)) (h0 : 0 < w.heap.size)
    (hn : n ≤ 4398046511104) (hI : InOpts w a n cap o) :
    Calls Ybad.prog 3 #[.slice a n cap, .int .u8 code, .int .u32 xid] w fun e w' => e = .returned (.bool true) ∧ Below w.heap.size w w' := by
  go_enter Ybad.func3, Ybad.ntmps3
  go_wp2_with fail
  go_loop [7, 8] (fun t i => ∃ (k : Nat) (s : Int), k ≤ n ∧ i = .int .i64 k ∧ t = .int .i64 s ∧ 0 ≤ s ∧ s ≤ 4398046511104) (fun _ i => n - (intOf i).toNat)
  case atStart => exact ⟨0, n, by omega, rfl, rfl, by omega, by omega⟩
  case round =>
    obtain ⟨k, s, hk, rfl, rfl, hs0, hs1⟩ := hrel
    by_cases hlt : k < n
    · obtain ⟨b, off, rfl, hb, hO⟩ := hI.2 (by omega)
      obtain ⟨c1, c2, c3, _, hl⟩ := hO k hlt
      by_cases hbig : 1048576 < s + ((o k).l : Int)
      · go_wp2_with fail
        go_ret
        exact ⟨rfl, Below.refl _ _⟩
      · go_wp2_with fail
        go_round
        case rel => exact ⟨k + 1, _, by omega, by go_num, rfl, by omega, by omega⟩
        case measure => simp [intOf]; omega
    · have hB := fun W hW => build_any a n cap o W hn hW
      go_wp2_with fail
      refine (build_any a n cap o w hn hI).mono ?_
      rintro e w1 ⟨L1, A1, rfl, hL1, hb1⟩
      obtain ⟨cs, hbuild, k4, k227⟩ := build43 xid L1 n
      go_wp2_with (refine wpList_build rfl 43 #[(4, Operand.tmp 35), (14, Operand.tmp 37)] rfl _ _ (by simp [Act.eval]) (hbuild _) ?_)
      have hbw2 : Below w.heap.size w (w1.alloc (Obj.cells cs 43)) := hb1.alloc hb1.size _
      have hal : Below w1.heap.size w1 (w1.alloc (Obj.cells cs 43)) := (Below.refl _ _).alloc (Nat.le_refl _) _
      have hx4 : (w1.alloc (Obj.cells cs 43)).cell? ⟨w1.heap.size, 4, none⟩ = some (.int .u32 xid) := by rw [cell_new _ _ _ _ _ rfl]; exact k4
      have hx227 : (w1.alloc (Obj.cells cs 43)).cell? ⟨w1.heap.size, 227, none⟩ = some (.slice L1 n n) := by rw [cell_new _ _ _ _ _ rfl]; exact k227
      have hsz2 : (w1.alloc (Obj.cells cs 43)).heap.size = w1.heap.size + 1 := by simp
      have hL1' := hL1.below hal
      have hI2 := hI.below hbw2
      have hz2 := (hbw2.cell (p := ⟨0, 0, none⟩) h0).trans hz
      clear hL1 hB hbuild k4 k227 hal
      generalize hw2 : w1.alloc (Obj.cells cs 43) = w2 at *
      clear hw2
      refine (build_any a n cap o w2 hn hI2).mono ?_
      rintro e w3 ⟨L2, A2, rfl, hL2, hb3⟩
      have hb1s := hb1.size
      have hy4 := (hb3.cell (p := ⟨w1.heap.size, 4, none⟩) (by show w1.heap.size < w2.heap.size; omega)).trans hx4
      have hy227 := (hb3.cell (p := ⟨w1.heap.size, 227, none⟩) (by show w1.heap.size < w2.heap.size; omega)).trans hx227
      have hz3 := (hb3.cell (p := ⟨0, 0, none⟩) (by show 0 < w2.heap.size; omega)).trans hz2
      have hb3s := hb3.size
      have hL1'' := hL1'.below hb3
      have hbw3 : Below w.heap.size w w3 := hbw2.trans (hb3.mono hbw2.size)
      clear hL1' hx4 hx227 hz2 hI2
      go_wp2_with fail
      refine (addr_any w1.heap.size n n w.heap.size a.isNone L1 A1 o code z w3 hz3 (by omega) (by omega) hn hy227 hL1'').mono ?_
      rintro e w4 ⟨lo, z', rfl, hans, hb4⟩
      have hb4s := hb4.size
      have hL1f := hL1''.below hb4
      have hL2f := hL2.below hb4
      have hv4 := (hb4.cell (p := ⟨w1.heap.size, 4, none⟩) (by show w1.heap.size < w3.heap.size; omega)).trans hy4
      have hv227 := (hb4.cell (p := ⟨w1.heap.size, 227, none⟩) (by show w1.heap.size < w3.heap.size; omega)).trans hy227
      have hz4 := (hb4.cell (p := ⟨0, 0, none⟩) (by show 0 < w3.heap.size; omega)).trans hz3
      have hbw4 : Below w.heap.size w w4 := hbw3.trans (hb4.mono hbw3.size)
      have hpb4 : w1.heap.size < w4.heap.size := by omega
      have h04 : 0 < w4.heap.size := by omega
      have HA : Hid (ansTo n o code z (adr 0 lo z')) := hans
      clear hans hL1'' hL2 hy4 hy227 hz3 hbw3 hbw2 hb3 hb4 hb1 hI hz hsz2 hb1s hb3s hb4s h0
      go_wp2_with fail
      have hal5 : Below w4.heap.size w4 (w4.alloc (Obj.cells #[Value.int IntKind.u64 0, Value.int IntKind.u64 lo, Value.pointer z'] 38)) := (Below.refl _ _).alloc (Nat.le_refl _) _
      have t0 : (w4.alloc (Obj.cells #[Value.int IntKind.u64 0, Value.int IntKind.u64 lo, Value.pointer z'] 38)).cell? ⟨w4.heap.size, 0, none⟩ = some (.int .u64 0) := by rw [cell_new _ _ _ _ _ rfl]; rfl
      have t1 : (w4.alloc (Obj.cells #[Value.int IntKind.u64 0, Value.int IntKind.u64 lo, Value.pointer z'] 38)).cell? ⟨w4.heap.size, 1, none⟩ = some (.int .u64 lo) := by rw [cell_new _ _ _ _ _ rfl]; rfl
      have t2 : (w4.alloc (Obj.cells #[Value.int IntKind.u64 0, Value.int IntKind.u64 lo, Value.pointer z'] 38)).cell? ⟨w4.heap.size, 2, none⟩ = some (.pointer z') := by rw [cell_new _ _ _ _ _ rfl]; rfl
      have hM1 := hL1f.below hal5
      have hM2 := hL2f.below hal5
      have hu4 := (hal5.cell (p := ⟨w1.heap.size, 4, none⟩) hpb4).trans hv4
      have hu227 := (hal5.cell (p := ⟨w1.heap.size, 227, none⟩) hpb4).trans hv227
      have hz5 := (hal5.cell (p := ⟨0, 0, none⟩) h04).trans hz4
      have hs5 : (w4.alloc (Obj.cells #[Value.int IntKind.u64 0, Value.int IntKind.u64 lo, Value.pointer z'] 38)).heap.size = w4.heap.size + 1 := by simp
      have hbw5 : Below w.heap.size w (w4.alloc (Obj.cells #[Value.int IntKind.u64 0, Value.int IntKind.u64 lo, Value.pointer z'] 38)) := hbw4.alloc hbw4.size _
      have hwle := hbw4.size
      clear hL1f hL2f hv4 hv227 hz4 hal5 hbw4
      generalize w4.alloc (Obj.cells #[Value.int IntKind.u64 0, Value.int IntKind.u64 lo, Value.pointer z'] 38) = w5 at *
      have hg5 : w4.heap.size < w5.heap.size := by omega
      have hp5 : w1.heap.size < w5.heap.size := by omega
      have h05 : 0 < w5.heap.size := by omega
      have HS5 : Hid (w5.heap.size = w4.heap.size + 1) := hs5
      clear hs5
      go_loop [12, 13] (fun f i => ∃ m : Nat, m ≤ n ∧ f = .int .i64 (-1) ∧ i = .int .i64 m ∧ ∀ j, j < m → (o j).c ≠ code) (fun _ i => n - (intOf i).toNat)
      case atStart => exact ⟨0, by omega, rfl, rfl, fun j hj => by omega⟩
      case round =>
        obtain ⟨m, hm, rfl, rfl, hmiss⟩ := hrel
        by_cases hmn : m < n
        · rcases hM2 with ⟨_, _, hbad⟩ | ⟨hnl2, g2, rfl, hO2⟩
          · omega
          obtain ⟨hb2, hg2, hc2⟩ := hO2
          obtain ⟨c1, c2, hBy⟩ := hc2 m hmn
          by_cases heq : (o m).c = code
          · have hq : ((o m).c == code) = true := by simp [heq]
            have HF : Hid ((o m).c = code ∧ ∀ j, j < m → (o j).c ≠ code) := ⟨heq, hmiss⟩
            clear heq hmiss
            by_cases h4 : (o m).m = 4
            · have h4' : (((o m).m : Int) == 4) = true := by simp [h4]
              rcases hBy with ⟨_, _, hbad⟩ | ⟨_, gd, hA2, _, hgd, hcd⟩
              · omega
              obtain ⟨hlo, hzz⟩ := ans_hit4 HA.out hmn HF.out.1 HF.out.2 h4
              subst hzz
              have HLO : Hid (lo = lo4 ((o m).E 0) ((o m).E 1) ((o m).E 2) ((o m).E 3)) := hlo
              clear hlo
              have hM2 : Lst w5 w2.heap.size a.isNone (some ⟨g2, 0, none⟩) n A2 o := Or.inr ⟨hnl2, g2, rfl, hb2, hg2, hc2⟩
              rw [hA2, h4] at c2
              rw [h4] at hcd
              have hd0 := hcd 0 (by omega)
              have hd1 := hcd 1 (by omega)
              have hd2 := hcd 2 (by omega)
              have hd3 := hcd 3 (by omega)
              have HA2 : Hid (A2 m = some ⟨gd, 0, none⟩) := hA2
              clear hA2 hcd hc2
              go_wp2_with fail
              have hal6 : Below w5.heap.size w5 (w5.alloc (Obj.cells #[Value.int IntKind.u64 0, Value.int IntKind.u64 0, Value.pointer none] 38)) := (Below.refl _ _).alloc (Nat.le_refl _) _
              have x0 : (w5.alloc (Obj.cells #[Value.int IntKind.u64 0, Value.int IntKind.u64 0, Value.pointer none] 38)).cell? ⟨w5.heap.size, 0, none⟩ = some (.int .u64 0) := by rw [cell_new _ _ _ _ _ rfl]; rfl
              have x1 : (w5.alloc (Obj.cells #[Value.int IntKind.u64 0, Value.int IntKind.u64 0, Value.pointer none] 38)).cell? ⟨w5.heap.size, 1, none⟩ = some (.int .u64 0) := by rw [cell_new _ _ _ _ _ rfl]; rfl
              have x2 : (w5.alloc (Obj.cells #[Value.int IntKind.u64 0, Value.int IntKind.u64 0, Value.pointer none] 38)).cell? ⟨w5.heap.size, 2, none⟩ = some (.pointer none) := by rw [cell_new _ _ _ _ _ rfl]; rfl
              have fz0 : (w5.alloc (Obj.cells #[Value.int IntKind.u64 0, Value.int IntKind.u64 0, Value.pointer none] 38)).frozen? ⟨w5.heap.size, 0, none⟩ = false := by simp
              have fz1 : (w5.alloc (Obj.cells #[Value.int IntKind.u64 0, Value.int IntKind.u64 0, Value.pointer none] 38)).frozen? ⟨w5.heap.size, 1, none⟩ = false := by simp
              have fz2 : (w5.alloc (Obj.cells #[Value.int IntKind.u64 0, Value.int IntKind.u64 0, Value.pointer none] 38)).frozen? ⟨w5.heap.size, 2, none⟩ = false := by simp
              have e0 := (hal6.cell (p := ⟨gd, 0, none⟩) hgd).trans hd0
              have e1 := (hal6.cell (p := ⟨gd, 1, none⟩) hgd).trans hd1
              have e2 := (hal6.cell (p := ⟨gd, 2, none⟩) hgd).trans hd2
              have e3 := (hal6.cell (p := ⟨gd, 3, none⟩) hgd).trans hd3
              have hz6 := (hal6.cell (p := ⟨0, 0, none⟩) h05).trans hz5
              have hs6 : (w5.alloc (Obj.cells #[Value.int IntKind.u64 0, Value.int IntKind.u64 0, Value.pointer none] 38)).heap.size = w5.heap.size + 1 := by simp
              have HB6 : Hid (Below w5.heap.size w5 (w5.alloc (Obj.cells #[Value.int IntKind.u64 0, Value.int IntKind.u64 0, Value.pointer none] 38))) := hal6
              clear hd0 hd1 hd2 hd3 c1 c2 hal6
              generalize w5.alloc (Obj.cells #[Value.int IntKind.u64 0, Value.int IntKind.u64 0, Value.pointer none] 38) = v6 at *
              have hg6 : gd < v6.heap.size := by omega
              have h06 : 0 < v6.heap.size := by omega
              have hw6 : w5.heap.size < v6.heap.size := by omega
              have HS6 : Hid (v6.heap.size = w5.heap.size + 1) := hs6
              clear hs6
              go_region_held3 (fun w' => w'.cell? ⟨gd, 0, none⟩ = some (.int .u8 ((o m).E 0)) ∧ w'.cell? ⟨gd, 1, none⟩ = some (.int .u8 ((o m).E 1)) ∧ w'.cell? ⟨gd, 2, none⟩ = some (.int .u8 ((o m).E 2)) ∧ w'.cell? ⟨gd, 3, none⟩ = some (.int .u8 ((o m).E 3))) (first | exact ⟨e0, e1, e2, e3⟩ | (simp [go_sem, e0, e1, e2, e3, hg6]))
                (first
                  | (go_at_call 6; refine (from4_any _ _ _ _ z' v6.drew (by exact hz6) (by exact h06)).mono ?_; rintro e w' ⟨rfl, o1, o2, rfl⟩; rw [← HLO.out]))
              go_upto_region 21 with fail
              have hb7 : Below w5.heap.size w5 (((((v6.setCell ⟨w5.heap.size, 0, none⟩ (Value.int IntKind.u64 0)).setCell ⟨w5.heap.size, 1, none⟩ (Value.int IntKind.u64 lo)).setCell ⟨w5.heap.size, 2, none⟩ (Value.pointer z')).alloc (Obj.cells o1 48)).alloc (Obj.cells o2 38)).drew :=
                Below.drew (Below.alloc (Below.alloc (((HB6.out.setCell (Nat.le_refl _) _).setCell (Nat.le_refl _) _).setCell (Nat.le_refl _) _) (by simp [World.setCell]; omega) _) (by simp [World.setCell]; omega) _)
              have z0 : ((((((v6.setCell ⟨w5.heap.size, 0, none⟩ (Value.int IntKind.u64 0)).setCell ⟨w5.heap.size, 1, none⟩ (Value.int IntKind.u64 lo)).setCell ⟨w5.heap.size, 2, none⟩ (Value.pointer z')).alloc (Obj.cells o1 48)).alloc (Obj.cells o2 38)).drew).cell? ⟨w5.heap.size, 0, none⟩ = some (.int .u64 0) := by simp [go_sem, hw6, x0]
              have z1 : ((((((v6.setCell ⟨w5.heap.size, 0, none⟩ (Value.int IntKind.u64 0)).setCell ⟨w5.heap.size, 1, none⟩ (Value.int IntKind.u64 lo)).setCell ⟨w5.heap.size, 2, none⟩ (Value.pointer z')).alloc (Obj.cells o1 48)).alloc (Obj.cells o2 38)).drew).cell? ⟨w5.heap.size, 1, none⟩ = some (.int .u64 lo) := by simp [go_sem, hw6, x1]
              have z2 : ((((((v6.setCell ⟨w5.heap.size, 0, none⟩ (Value.int IntKind.u64 0)).setCell ⟨w5.heap.size, 1, none⟩ (Value.int IntKind.u64 lo)).setCell ⟨w5.heap.size, 2, none⟩ (Value.pointer z')).alloc (Obj.cells o1 48)).alloc (Obj.cells o2 38)).drew).cell? ⟨w5.heap.size, 2, none⟩ = some (.pointer z') := by simp [go_sem, hw6, x2]
              clear x0 x1 x2 fz0 fz1 fz2 e0 e1 e2 e3 hz6
              generalize (((((v6.setCell ⟨w5.heap.size, 0, none⟩ (Value.int IntKind.u64 0)).setCell ⟨w5.heap.size, 1, none⟩ (Value.int IntKind.u64 lo)).setCell ⟨w5.heap.size, 2, none⟩ (Value.pointer z')).alloc (Obj.cells o1 48)).alloc (Obj.cells o2 38)).drew = w6 at *
              have hN1 := hM1.below hb7
              have hN2 := hM2.below hb7
              have s0 := (hb7.cell (p := ⟨w4.heap.size, 0, none⟩) hg5).trans t0
              have s1 := (hb7.cell (p := ⟨w4.heap.size, 1, none⟩) hg5).trans t1
              have s2 := (hb7.cell (p := ⟨w4.heap.size, 2, none⟩) hg5).trans t2
              have y4 := (hb7.cell (p := ⟨w1.heap.size, 4, none⟩) hp5).trans hu4
              have y227 := (hb7.cell (p := ⟨w1.heap.size, 227, none⟩) hp5).trans hu227
              have hbw6 := hbw5.trans (hb7.mono hbw5.size)
              clear hM1 hM2 t0 t1 t2 hu4 hu227 hz5 hb7 hbw5
              have hne := neq_adr 0 lo z'
              have q1 := hN1.isNone
              have q2 := hN2.isNone
              have hnl28 := fun W L m1 m2 => Lib.run_eql_slice_nil (P := Ybad.prog) W 28 46 L m1 m2 0 0 Ybad.underlying28
              have hnl24 := fun W L m1 m2 => Lib.run_eql_slice_nil (P := Ybad.prog) W 24 5 L m1 m2 0 0 Ybad.underlying24
              go_wp2_with fail
              go_loopw [16] (fun i wr => ∃ q : Nat, q ≤ n ∧ i = .int .i64 q ∧ ∃ nq, wr = w6.drewN nq) (fun i _ => n - (intOf i).toNat)
              case atStart => exact ⟨0, by omega, rfl, 0, rfl⟩
              case round =>
                obtain ⟨q, hq, rfl, nq, rfl⟩ := hrel
                by_cases hqn : q < n
                · rcases hN1 with ⟨_, _, hbad⟩ | ⟨_, g1, rfl, hb1, hg1, hc1⟩
                  · omega
                  rcases hN2 with ⟨_, _, hbad⟩ | ⟨_, g3, hLL, hb3, hg3, hc3⟩
                  · omega
                  cases hLL
                  obtain ⟨r1, r2, r3⟩ := hc1 q hqn
                  obtain ⟨r4, r5, r6⟩ := hc3 q hqn
                  have hqI : (q : Int) < (n : Int) := by omega
                  have hx1 := r3.isNone
                  have hx2 := r6.isNone
                  have HE : Hid (∀ x, Calls Ybad.prog 7 #[.slice (A1 q) (o q).m (o q).m, .slice (A2 q) (o q).m (o q).m] (w6.drewN (nq + x)) fun e w' => e = .returned (.bool true) ∧ ∃ y, w' = w6.drewN (nq + y)) := fun x => (equal_any _ _ _ _ _ _ _ _ _ (r3.drewN (nq + x)) (r6.drewN (nq + x))).mono fun e w' h => ⟨h.1, x, h.2⟩
                  clear hc1 hc3 r3 r6
                  go_wp2_with fail
                  go_quiet ((go_at_call 7; exact HE.out _))
                  go_wp2_with fail
                  go_roundw
                  case rel => exact ⟨q + 1, by omega, by go_num, _, rfl⟩
                  case measure => simp [intOf]; omega
                · go_wp2_with fail
                  go_ret
                  exact ⟨rfl, below_drewN hbw6 _⟩
            · have h4' : (((o m).m : Int) == 4) = false := by simp; omega
              obtain ⟨rfl, rfl⟩ := ans_hitn HA.out hmn HF.out.1 HF.out.2 h4
              have hM2 : Lst w5 w2.heap.size a.isNone (some ⟨g2, 0, none⟩) n A2 o := Or.inr ⟨hnl2, g2, rfl, hb2, hg2, hc2⟩
              go_upto_region 21 with fail
              have hal6 : Below w5.heap.size w5 (w5.alloc (Obj.cells #[Value.int IntKind.u64 0, Value.int IntKind.u64 0, Value.pointer none] 38)) := (Below.refl _ _).alloc (Nat.le_refl _) _
              have hN1 := hM1.below hal6
              have hN2 := hM2.below hal6
              have s0 := (hal6.cell (p := ⟨w4.heap.size, 0, none⟩) hg5).trans t0
              have s1 := (hal6.cell (p := ⟨w4.heap.size, 1, none⟩) hg5).trans t1
              have s2 := (hal6.cell (p := ⟨w4.heap.size, 2, none⟩) hg5).trans t2
              have x0 : (w5.alloc (Obj.cells #[Value.int IntKind.u64 0, Value.int IntKind.u64 0, Value.pointer none] 38)).cell? ⟨w5.heap.size, 0, none⟩ = some (.int .u64 0) := by rw [cell_new _ _ _ _ _ rfl]; rfl
              have x1 : (w5.alloc (Obj.cells #[Value.int IntKind.u64 0, Value.int IntKind.u64 0, Value.pointer none] 38)).cell? ⟨w5.heap.size, 1, none⟩ = some (.int .u64 0) := by rw [cell_new _ _ _ _ _ rfl]; rfl
              have x2 : (w5.alloc (Obj.cells #[Value.int IntKind.u64 0, Value.int IntKind.u64 0, Value.pointer none] 38)).cell? ⟨w5.heap.size, 2, none⟩ = some (.pointer none) := by rw [cell_new _ _ _ _ _ rfl]; rfl
              have y4 := (hal6.cell (p := ⟨w1.heap.size, 4, none⟩) hp5).trans hu4
              have y227 := (hal6.cell (p := ⟨w1.heap.size, 227, none⟩) hp5).trans hu227
              have hbw6 := hbw5.trans (hal6.mono hbw5.size)
              clear hM1 hM2 t0 t1 t2 hu4 hu227 hz5 hal6 hbw5
              generalize w5.alloc (Obj.cells #[Value.int IntKind.u64 0, Value.int IntKind.u64 0, Value.pointer none] 38) = w6 at *
              have hne := neq_adr 0 0 none
              have q1 := hN1.isNone
              have q2 := hN2.isNone
              have hnl28 := fun W L m1 m2 => Lib.run_eql_slice_nil (P := Ybad.prog) W 28 46 L m1 m2 0 0 Ybad.underlying28
              have hnl24 := fun W L m1 m2 => Lib.run_eql_slice_nil (P := Ybad.prog) W 24 5 L m1 m2 0 0 Ybad.underlying24
              go_wp2_with fail
              go_loopw [16] (fun i wr => ∃ q : Nat, q ≤ n ∧ i = .int .i64 q ∧ ∃ nq, wr = w6.drewN nq) (fun i _ => n - (intOf i).toNat)
              case atStart => exact ⟨0, by omega, rfl, 0, rfl⟩
              case round =>
                obtain ⟨q, hq, rfl, nq, rfl⟩ := hrel
                by_cases hqn : q < n
                · rcases hN1 with ⟨_, _, hbad⟩ | ⟨_, g1, rfl, hb1, hg1, hc1⟩
                  · omega
                  rcases hN2 with ⟨_, _, hbad⟩ | ⟨_, g3, hLL, hb3, hg3, hc3⟩
                  · omega
                  cases hLL
                  obtain ⟨r1, r2, r3⟩ := hc1 q hqn
                  obtain ⟨r4, r5, r6⟩ := hc3 q hqn
                  have hqI : (q : Int) < (n : Int) := by omega
                  have hx1 := r3.isNone
                  have hx2 := r6.isNone
                  have HE : Hid (∀ x, Calls Ybad.prog 7 #[.slice (A1 q) (o q).m (o q).m, .slice (A2 q) (o q).m (o q).m] (w6.drewN (nq + x)) fun e w' => e = .returned (.bool true) ∧ ∃ y, w' = w6.drewN (nq + y)) := fun x => (equal_any _ _ _ _ _ _ _ _ _ (r3.drewN (nq + x)) (r6.drewN (nq + x))).mono fun e w' h => ⟨h.1, x, h.2⟩
                  clear hc1 hc3 r3 r6
                  go_wp2_with fail
                  go_quiet ((go_at_call 7; exact HE.out _))
                  go_wp2_with fail
                  go_roundw
                  case rel => exact ⟨q + 1, by omega, by go_num, _, rfl⟩
                  case measure => simp [intOf]; omega
                · go_wp2_with fail
                  go_ret
                  exact ⟨rfl, below_drewN hbw6 _⟩
          · have hq : ((o m).c == code) = false := by simp [heq]
            have Hm : Hid (∀ j, j < m + 1 → (o j).c ≠ code) := fun j hj => by
              by_cases hjk : j < m
              · exact hmiss j hjk
              · obtain rfl : j = m := by omega
                exact heq
            clear heq hmiss
            go_wp2_with fail
            go_round
            case rel => exact ⟨m + 1, by omega, rfl, by go_num, Hm.out⟩
            case measure => simp [intOf]; omega
        · have HF : Hid (∀ j, j < n → (o j).c ≠ code) := fun j hj => hmiss j (by omega)
          clear hmiss
          obtain ⟨rfl, rfl⟩ := ans_miss HA.out HF.out
          go_upto_region 21 with fail
          have hal6 : Below w5.heap.size w5 (w5.alloc (Obj.cells #[Value.int IntKind.u64 0, Value.int IntKind.u64 0, Value.pointer none] 38)) := (Below.refl _ _).alloc (Nat.le_refl _) _
          have hN1 := hM1.below hal6
          have hN2 := hM2.below hal6
          have s0 := (hal6.cell (p := ⟨w4.heap.size, 0, none⟩) hg5).trans t0
          have s1 := (hal6.cell (p := ⟨w4.heap.size, 1, none⟩) hg5).trans t1
          have s2 := (hal6.cell (p := ⟨w4.heap.size, 2, none⟩) hg5).trans t2
          have x0 : (w5.alloc (Obj.cells #[Value.int IntKind.u64 0, Value.int IntKind.u64 0, Value.pointer none] 38)).cell? ⟨w5.heap.size, 0, none⟩ = some (.int .u64 0) := by rw [cell_new _ _ _ _ _ rfl]; rfl
          have x1 : (w5.alloc (Obj.cells #[Value.int IntKind.u64 0, Value.int IntKind.u64 0, Value.pointer none] 38)).cell? ⟨w5.heap.size, 1, none⟩ = some (.int .u64 0) := by rw [cell_new _ _ _ _ _ rfl]; rfl
          have x2 : (w5.alloc (Obj.cells #[Value.int IntKind.u64 0, Value.int IntKind.u64 0, Value.pointer none] 38)).cell? ⟨w5.heap.size, 2, none⟩ = some (.pointer none) := by rw [cell_new _ _ _ _ _ rfl]; rfl
          have y4 := (hal6.cell (p := ⟨w1.heap.size, 4, none⟩) hp5).trans hu4
          have y227 := (hal6.cell (p := ⟨w1.heap.size, 227, none⟩) hp5).trans hu227
          have hbw6 := hbw5.trans (hal6.mono hbw5.size)
          clear hM1 hM2 t0 t1 t2 hu4 hu227 hz5 hal6 hbw5
          generalize w5.alloc (Obj.cells #[Value.int IntKind.u64 0, Value.int IntKind.u64 0, Value.pointer none] 38) = w6 at *
          have hne := neq_adr 0 0 none
          have q1 := hN1.isNone
          have q2 := hN2.isNone
          have hnl28 := fun W L m1 m2 => Lib.run_eql_slice_nil (P := Ybad.prog) W 28 46 L m1 m2 0 0 Ybad.underlying28
          have hnl24 := fun W L m1 m2 => Lib.run_eql_slice_nil (P := Ybad.prog) W 24 5 L m1 m2 0 0 Ybad.underlying24
          go_wp2_with fail
          go_loopw [16] (fun i wr => ∃ q : Nat, q ≤ n ∧ i = .int .i64 q ∧ ∃ nq, wr = w6.drewN nq) (fun i _ => n - (intOf i).toNat)
          case atStart => exact ⟨0, by omega, rfl, 0, rfl⟩
          case round =>
            obtain ⟨q, hq, rfl, nq, rfl⟩ := hrel
            by_cases hqn : q < n
            · rcases hN1 with ⟨_, _, hbad⟩ | ⟨_, g1, rfl, hb1, hg1, hc1⟩
              · omega
              rcases hN2 with ⟨_, _, hbad⟩ | ⟨_, g3, hLL, hb3, hg3, hc3⟩
              · omega
              cases hLL
              obtain ⟨r1, r2, r3⟩ := hc1 q hqn
              obtain ⟨r4, r5, r6⟩ := hc3 q hqn
              have hqI : (q : Int) < (n : Int) := by omega
              have hx1 := r3.isNone
              have hx2 := r6.isNone
              have HE : Hid (∀ x, Calls Ybad.prog 7 #[.slice (A1 q) (o q).m (o q).m, .slice (A2 q) (o q).m (o q).m] (w6.drewN (nq + x)) fun e w' => e = .returned (.bool true) ∧ ∃ y, w' = w6.drewN (nq + y)) := fun x => (equal_any _ _ _ _ _ _ _ _ _ (r3.drewN (nq + x)) (r6.drewN (nq + x))).mono fun e w' h => ⟨h.1, x, h.2⟩
              clear hc1 hc3 r3 r6
              go_wp2_with fail
              go_quiet ((go_at_call 7; exact HE.out _))
              go_wp2_with fail
              go_roundw
              case rel => exact ⟨q + 1, by omega, by go_num, _, rfl⟩
              case measure => simp [intOf]; omega
            · go_wp2_with fail
              go_ret
              exact ⟨rfl, below_drewN hbw6 _⟩
end Go.Proofs.YbulkezawDoor
