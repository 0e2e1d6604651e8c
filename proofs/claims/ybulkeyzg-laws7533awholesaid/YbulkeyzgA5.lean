import Derived.Test.YbulkeyzgA4
import Derived.Deep.AppendLies
namespace Go.Proofs.Ybulkeyzg
open Go.RowKit

/-- '*structs++, *floored++' of the model -/
theorem anew_any (w : World) (A B i j : Nat) (s f b : Int) (hA : w.cell? ⟨A, i, none⟩ = some (.int .i64 s)) (zA : w.frozen? ⟨A, i, none⟩ = false) (hB : w.cell? ⟨B, j, none⟩ = some (.int .i64 f)) (zB : w.frozen? ⟨B, j, none⟩ = false) (hne : B ≠ A) :
    Calls Yba.prog 7 #[.pointer (some ⟨A, i, none⟩), .pointer (some ⟨B, j, none⟩), .int .i64 b] w fun e w' => e = .returned (.int .i64 (newB f b)) ∧
      w' = if b ≤ 320 ∧ f < 8 then (w.setCell ⟨A, i, none⟩ (.int .i64 (wrap64 (s + 1)))).setCell ⟨B, j, none⟩ (.int .i64 (wrap64 (f + 1))) else w.setCell ⟨A, i, none⟩ (.int .i64 (wrap64 (s + 1))) := by
  have dB : ∀ v, (w.setCell ⟨A, i, none⟩ v).cell? ⟨B, j, none⟩ = some (.int .i64 f) := fun v => by
    rw [← hB]; exact World.cell?_of_block (Go.Deep.blk_setCell_other _ _ _ _ hne)
  have yB : ∀ v, (w.setCell ⟨A, i, none⟩ v).frozen? ⟨B, j, none⟩ = false := fun v => by
    rw [← zB]; exact World.frozen?_of_block (Go.Deep.blk_setCell_other _ _ _ _ hne)
  by_cases hb : b ≤ 320
  · by_cases hf8 : f < 8
    · have HN : Hid (newB f b = 320) := if_pos ⟨hb, hf8⟩
      go_enter Yba.func7, Yba.ntmps7
      go_wp2_with fail
      go_ret
      refine ⟨by rw [HN.out]; rfl, ?_⟩
      rfl
    · have HN : Hid (newB f b = b) := if_neg fun h => hf8 h.2
      go_enter Yba.func7, Yba.ntmps7
      go_wp2_with fail
      go_ret
      refine ⟨by rw [HN.out]; rfl, ?_⟩
      rfl
  · have HN : Hid (newB f b = b) := if_neg fun h => hb h.1
    go_enter Yba.func7, Yba.ntmps7
    go_wp2_with fail
    go_ret
    refine ⟨by rw [HN.out]; rfl, ?_⟩
    rfl

def keyC (k : Key) : List Value := [.int .i64 k.1, .int .u8 k.2.1, .int .u8 k.2.2]
def keysL (kv : KV) : List Value := kv.flatMap (fun e => keyC e.1)
def valsL (kv : KV) : List Value := kv.map (fun e => .int .i64 e.2)
def ixV (o : Option Nat) : Int := match o with | some x => x | none => -1

/-- the model's slice of keys lies there: the n keys of kv -/
def KeysAt (w : World) (a : Option Addr) (kv : KV) : Prop := ∀ x e, kv[x]? = some e → ∃ g, a = some ⟨g, 0, none⟩ ∧ g < w.heap.size ∧ w.cell? ⟨g, x * 3, none⟩ = some (.int .i64 e.1.1) ∧ w.cell? ⟨g, x * 3 + 1, none⟩ = some (.int .u8 e.1.2.1) ∧ w.cell? ⟨g, x * 3 + 2, none⟩ = some (.int .u8 e.1.2.2)

theorem idx_at {k : Key} : ∀ (l : KV) (i : Nat), (∀ x, x < i → ∀ e, l[x]? = some e → e.1 ≠ k) → i ≤ l.length → (i = l.length → idx k l = none) ∧ ∀ e, l[i]? = some e → e.1 = k → idx k l = some i
  | [], i, _, hi => by
    refine ⟨fun _ => rfl, fun e he => by simp at he⟩
  | a :: l, 0, _, _ => by
    refine ⟨fun h => by simp at h, fun e he hk => ?_⟩
    simp at he
    subst he
    exact if_pos hk
  | a :: l, i + 1, h, hi => by
    have h0 : a.1 ≠ k := h 0 (by omega) a rfl
    have ih := idx_at (k := k) l i (fun x hx e he => h (x + 1) (by omega) e he) (by simp at hi; omega)
    have e1 : idx k (a :: l) = (idx k l).map (· + 1) := if_neg h0
    refine ⟨fun hl => ?_, fun e he hk => ?_⟩
    · rw [e1, ih.1 (by simp at hl; omega)]; rfl
    · rw [e1, ih.2 e (by simpa using he) hk]; rfl

theorem eq57 (w : World) (p' m' q' p m q : Nat) : (binOp .eql 57 (.agg #[.int .i64 p', .int .u8 m', .int .u8 q']) (.agg #[.int .i64 p, .int .u8 m, .int .u8 q])).run Yba.prog w = .ok (.bool (decide (p' = p ∧ m' = m ∧ q' = q))) w := by
  have hS : Yba.prog.underlying 57 = some (.struct (Yba.prog.fieldsOf 57)) := by kernel_rfl
  have hp : Yba.prog.stoodInHeld 57 = false := by kernel_rfl
  have u3 := Yba.underlying3
  have u5 := Yba.underlying5
  rw [run_eql_struct, show (10000 : Nat) = 9999 + 1 from rfl, run_equalIn_agg w 9999 57 _ _ hS hp]
  simp only [Program.fieldsOf, Yba.underlying57]
  clear hS hp
  simp only [Op.eqFields]
  go_simp
  by_cases a : p' = p <;> by_cases b : m' = m <;> by_cases c : q' = q <;> simp [a, b, c, Int.ofNat_inj]

set_option maxRecDepth 20000 in
theorem find_any (w : World) (a : Option Addr) (c : Nat) (kv : KV) (k : Key) (h : KeysAt w a kv) (hl : kv.length ≤ 100000) :
    Calls Yba.prog 6 #[.slice a kv.length c, .agg #[.int .i64 k.1, .int .u8 k.2.1, .int .u8 k.2.2]] w fun e w' => e = .returned (.int .i64 (ixV (idx k kv))) ∧ Touch (fun _ => False) w w' := by
  obtain ⟨p, m, q⟩ := k
  generalize hn : kv.length = n at *
  have HNL : Hid (kv.length = n) := hn
  clear hn
  simp only
  go_enter Yba.func6, Yba.ntmps6
  go_wp2_with fail
  have hkb := World.rowIs_alloc w #[.int .i64 p, .int .u8 m, .int .u8 q] 57 (fun i => if i = 0 then .int .i64 p else if i = 1 then .int .u8 m else .int .u8 q) (fun i hi => by
    match i, hi with
    | 0, _ => rfl
    | 1, _ => rfl
    | 2, _ => rfl
    | n + 3, h => simp at h; omega)
  have HT0 : Hid (Touch (fun _ => False) w (w.alloc (Obj.cells #[Value.int IntKind.i64 p, Value.int IntKind.u8 m, Value.int IntKind.u8 q] 57))) := (Touch.refl _ _).alloc _
  have HK : Hid (KeysAt (w.alloc (Obj.cells #[Value.int IntKind.i64 p, Value.int IntKind.u8 m, Value.int IntKind.u8 q] 57)) a kv) := fun x e he => by
    obtain ⟨g, ha, hlt, h1, h2, h3⟩ := h x e he
    have hb : ∀ o, (w.alloc o).heap[g]? = w.heap[g]? := fun o => Go.Deep.blk_alloc_lt w o _ hlt
    exact ⟨g, ha, Nat.lt_of_lt_of_le hlt HT0.out.size, (World.cell?_of_block (a := ⟨g, x * 3, none⟩) (hb _)).trans h1, (World.cell?_of_block (a := ⟨g, x * 3 + 1, none⟩) (hb _)).trans h2, (World.cell?_of_block (a := ⟨g, x * 3 + 2, none⟩) (hb _)).trans h3⟩
  clear h
  generalize w.alloc (Obj.cells #[Value.int IntKind.i64 p, Value.int IntKind.u8 m, Value.int IntKind.u8 q] 57) = v at *
  generalize w.heap.size = kb at *
  have k0 := hkb.cell (i := 0) (by simp)
  have k1 := hkb.cell (i := 1) (by simp)
  have k2 := hkb.cell (i := 2) (by simp)
  simp only [if_true, if_false, show ((1 : Nat) = 0) = False from by simp, show ((2 : Nat) = 0) = False from by simp, show ((2 : Nat) = 1) = False from by simp] at k0 k1 k2
  clear hkb
  go_loopw [5] (fun s wr => ∃ i : Nat, i ≤ n ∧ s = .int .i64 i ∧ (∀ x, x < i → ∀ e, kv[x]? = some e → e.1 ≠ (p, m, q)) ∧ ∃ y, wr = v.drewN y) (fun s _ => n - (intOf s).toNat)
  case atStart => exact ⟨0, by omega, rfl, fun x hx => by omega, 0, rfl⟩
  case round =>
    obtain ⟨i, hi, rfl, hno, y, rfl⟩ := hrel
    have HNO : Hid (∀ x, x < i → ∀ e, kv[x]? = some e → e.1 ≠ (p, m, q)) := hno
    clear hno
    have HI := idx_at (k := (p, m, q)) kv i HNO.out (by rw [HNL.out]; exact hi)
    have HIX : Hid ((i = kv.length → idx (p, m, q) kv = none) ∧ ∀ e, kv[i]? = some e → e.1 = (p, m, q) → idx (p, m, q) kv = some i) := HI
    clear HI
    by_cases hin : i < n
    · obtain ⟨e, he⟩ : ∃ e, kv[i]? = some e := ⟨_, List.getElem?_eq_getElem (by rw [HNL.out]; exact hin)⟩
      obtain ⟨g, ha, hlt, h1, h2, h3⟩ := HK.out i e he
      subst ha
      obtain ⟨⟨p', m', q'⟩, z⟩ := e
      simp only at h1 h2 h3
      have HE : Hid (kv[i]? = some ((p', m', q'), z)) := he
      clear he
      have hI : (i : Int) < (n : Int) := by omega
      have hE : (binOp .eql 57 (.agg #[.int .i64 p', .int .u8 m', .int .u8 q']) (.agg #[.int .i64 p, .int .u8 m, .int .u8 q])).run Yba.prog = fun w => .ok (.bool (decide (p' = p ∧ m' = m ∧ q' = q))) w := funext fun w => eq57 w p' m' q' p m q
      by_cases heq : p' = p ∧ m' = m ∧ q' = q
      · have HF : Hid (idx (p, m, q) kv = some i) := HIX.out.2 _ HE.out (by obtain ⟨rfl, rfl, rfl⟩ := heq; rfl)
        rw [decide_eq_true heq] at hE
        have hE' := congrFun hE
        clear heq hE
        go_wp2_with fail
        go_quiet (fail)
        go_wp2_with fail
        go_ret
        exact ⟨by rw [HF.out]; rfl, (HT0.out.drewN y).drewN nq⟩
      · have HNE : Hid ((p', m', q') ≠ (p, m, q)) := fun h => heq (by simpa using h)
        rw [decide_eq_false heq] at hE
        have hE' := congrFun hE
        clear heq hE
        go_wp2_with fail
        go_quiet (fail)
        go_wp2_with fail
        refine ⟨⟨i + 1, by omega, by go_num, fun x hx e he => ?_, y + nq, rfl⟩, by simp [intOf]; omega⟩
        by_cases hxi : x = i
        · subst hxi
          have := HE.out.symm.trans he
          cases this
          exact HNE.out
        · exact HNO.out x (by omega) e he
    · have hin' : ¬ (i : Int) < n := by omega
      have HN0 : Hid (idx (p, m, q) kv = none) := HIX.out.1 (by rw [HNL.out]; omega)
      go_wp2_with fail
      go_ret
      exact ⟨by rw [HN0.out]; rfl, HT0.out.drewN y⟩
end Go.Proofs.Ybulkeyzg
