import Derived.Test.YbulkeyzgA1
namespace Go.Proofs.Ybulkeyzg
open Go.RowKit

/-! ### the map's laws: keys are structs {page, {mode, kind}} -/
def keyV (pa : Nat → Nat) (k : Key) : Value := .agg #[.pointer (some ⟨pa k.1, 0, none⟩), .int .u8 k.2.1, .int .u8 k.2.2]

/-- the pages lie, apart -/
structure Apart (w : World) (pa : Nat → Nat) (np : Nat) : Prop where
  cells : ∀ i, i < np → ∃ c t, w.heap[pa i]? = some (.cells c t (0, 0))
  inj : ∀ i j, i < np → j < np → pa i = pa j → i = j

theorem eqPtr {w : World} {pa : Nat → Nat} {np : Nat} (h : Apart w pa np) {i j : Nat} (hi : i < np) (hj : j < np) (d : Nat) :
    (Op.equalIn (d + 1) 37 (.pointer (some ⟨pa i, 0, none⟩)) (.pointer (some ⟨pa j, 0, none⟩))).run Yba.prog w = .ok (decide (i = j)) w := by
  have hp := Yba.underlying37
  have hinfo : ∃ ti, Yba.prog.info? 41 = some ti ∧ ti.size ≠ 0 := by
    have : (Yba.prog.info? 41).map (fun i => decide (i.size ≠ 0)) = some true := by kernel_rfl
    obtain ⟨ti, h1, h2⟩ := Option.map_eq_some_iff.1 this
    exact ⟨ti, h1, by simpa using h2⟩
  obtain ⟨ti, ht, hs⟩ := hinfo
  obtain ⟨c1, t1, h1⟩ := h.cells i hi
  obtain ⟨c2, t2, h2⟩ := h.cells j hj
  by_cases e : i = j
  · subst e
    simp [Op.equalIn, run_underlying hp, sizeOf, typeInfo, ht, run_sameAddr_same]
  · have hne : (⟨pa i, 0, none⟩ : Addr) ≠ ⟨pa j, 0, none⟩ := fun he => e (h.inj i j hi hj (by injection he))
    simp [Op.equalIn, run_underlying hp, sizeOf, typeInfo, ht, hs, run_sameAddr_other (P := Yba.prog) w hne h1 h2, e]

theorem eq63 {w : World} {pa : Nat → Nat} {np : Nat} (h : Apart w pa np) {k k' : Key} (hk : k.1 < np) (hk' : k'.1 < np) :
    (Op.equal 63 (keyV pa k) (keyV pa k')).run Yba.prog w = .ok (decide (k = k')) w := by
  obtain ⟨p, m, q⟩ := k
  obtain ⟨p', m', q'⟩ := k'
  have hE : (Op.equalIn 9999 37 (.pointer (some ⟨pa p, 0, none⟩)) (.pointer (some ⟨pa p', 0, none⟩))).run Yba.prog w = .ok (decide (p = p')) w := eqPtr h hk hk' 9998
  clear hk hk' h
  have hS : Yba.prog.underlying 63 = some (.struct (Yba.prog.fieldsOf 63)) := by kernel_rfl
  have hp : Yba.prog.stoodInHeld 63 = false := by kernel_rfl
  have hS1 : Yba.prog.underlying 61 = some (.struct (Yba.prog.fieldsOf 61)) := by kernel_rfl
  have hp1 : Yba.prog.stoodInHeld 61 = false := by kernel_rfl
  have u58 := Yba.underlying58
  have u59 := Yba.underlying59
  have e1 : (Op.equalIn 9999 61 (.agg #[.int .u8 m, .int .u8 q]) (.agg #[.int .u8 m', .int .u8 q'])).run Yba.prog w = .ok (decide ((m : Int) = m') && decide ((q : Int) = q')) w := by
    rw [show (9999 : Nat) = 9998 + 1 from rfl, run_equalIn_agg w 9998 61 _ _ hS1 hp1]
    simp only [Program.fieldsOf, Yba.underlying61]
    go_simp
    by_cases a : (m : Int) = m' <;> by_cases b : (q : Int) = q' <;> simp [a, b]
  unfold Op.equal keyV
  rw [show Op.maxDepth = 9999 + 1 from rfl, run_equalIn_agg w 9999 63 _ _ hS hp]
  simp only [Program.fieldsOf, Yba.underlying63]
  clear hS hp hS1 hp1
  simp only [Op.eqFields]
  go_simp
  by_cases a : p = p' <;> by_cases b : m = m' <;> by_cases c : q = q' <;> simp [a, b, c, Int.ofNat_inj]

def encE (pa : Nat → Nat) (e : Key × Int) : Value × Value := (keyV pa e.1, .int .i64 e.2)
/-- block b is a map that holds these keys and numbers, in this order -/
def MapIs (w : World) (b : Nat) (pa : Nat → Nat) (kv : KV) : Prop :=
  ∃ es clock, w.heap[b]? = some (.map es clock) ∧ es.toList.map (fun e => (e.key, e.val)) = kv.map (encE pa)

def Ok (np : Nat) (k : Key) : Prop := k.1 < np ∧ k.2.1 < 3 ∧ k.2.2 < 4

theorem find_run {w : World} {pa : Nat → Nat} {np : Nat} (h : Apart w pa np) {k : Key} (hk : Ok np k) : ∀ (es : List MapEntry) (kv : KV) (i : Nat), All (Ok np) kv → es.map (fun e => (e.key, e.val)) = kv.map (encE pa) →
    (Instr.findAsking 63 (keyV pa k) es i).run Yba.prog w = .ok ((idx k kv).map fun x => (i + x, .int .i64 (get k kv))) w
  | [], [], i, _, _ => by simp [Instr.findAsking, idx]
  | [], _ :: _, _, _, he => by simp at he
  | _ :: _, [], _, _, he => by simp at he
  | e :: es, a :: kv, i, ha, he => by
    simp only [List.map_cons, List.cons.injEq, encE, Prod.mk.injEq] at he
    obtain ⟨⟨he1, he2⟩, he3⟩ := he
    unfold Instr.findAsking
    have ha1 := (ha a (List.mem_cons_self ..)).1
    simp only [Sem.run_bind, he1, eq63 h hk.1 ha1, Result.andThen_ok]
    by_cases e0 : a.1 = k
    · simp only [e0, decide_true, if_true, Sem.run_pure, he2]
      unfold idx get
      simp [e0]
    · have e1 : ¬ k = a.1 := fun h => e0 h.symm
      simp only [e1, decide_false, Bool.false_eq_true, if_false]
      rw [find_run h hk es kv (i + 1) (fun x hx => ha x (List.mem_cons_of_mem _ hx)) he3]
      have h1 : idx k (a :: kv) = (idx k kv).map (· + 1) := if_neg e0
      have h2 : get k (a :: kv) = get k kv := if_neg e0
      rw [h1, h2]
      cases idx k kv with
      | none => rfl
      | some x => simp only [Option.map_some]; congr 3; omega

theorem findKey_run {w : World} {pa : Nat → Nat} {np : Nat} (h : Apart w pa np) {k : Key} (hk : Ok np k) (es : List MapEntry) (kv : KV) (ha : All (Ok np) kv) (he : es.map (fun e => (e.key, e.val)) = kv.map (encE pa)) :
    (Instr.findKey 63 (keyV pa k) es).run Yba.prog w = .ok ((idx k kv).map fun x => (x, .int .i64 (get k kv))) w := by
  unfold Instr.findKey
  have hu := Yba.underlying63
  simp only [Sem.run_bind, run_underlying hu, Result.andThen_ok]
  cases es with
  | nil =>
    cases kv with
    | nil => simp [Instr.findNow, idx]
    | cons a l => simp at he
  | cons e es =>
    have := find_run h hk (e :: es) kv 0 ha he
    simp only [Nat.zero_add] at this
    simp only [Instr.findNow, Instr.sameNow]
    exact this

theorem checkKey_run (w : World) (b : Bool) (pa : Nat → Nat) (k : Key) : (Instr.checkKey b 10000 63 (keyV pa k)).run Yba.prog w = .ok () w := by
  unfold keyV
  kernel_rfl

theorem lookup_run {w : World} {b : Nat} {pa : Nat → Nat} {np : Nat} {kv : KV} (h : Apart w pa np) (hm : MapIs w b pa kv) (ha : All (Ok np) kv) {k : Key} (hk : Ok np k) :
    (Instr.lookup 46 (.map (some b)) (keyV pa k) false).run Yba.prog w = .ok (.int .i64 (get k kv)) w := by
  obtain ⟨es, clock, hb, he⟩ := hm
  have hu := Yba.underlying46
  have hz : (zeroValue 3).run Yba.prog w = .ok (.int .i64 0) w := by kernel_rfl
  unfold Instr.lookup
  simp only [Sem.run_bind, run_underlying hu, Result.andThen_ok, MapKept.run_getObj_map hb, Sem.run_pure, checkKey_run, findKey_run h hk es.toList kv ha he]
  cases hi : idx k kv with
  | none => simp [hz, (idx_none hi).1]
  | some x => simp

theorem lookup2_run {w : World} {b : Nat} {pa : Nat → Nat} {np : Nat} {kv : KV} (h : Apart w pa np) (hm : MapIs w b pa kv) (ha : All (Ok np) kv) {k : Key} (hk : Ok np k) (hi : (idx k kv).isSome = true) :
    (Instr.lookup 46 (.map (some b)) (keyV pa k) true).run Yba.prog w = .ok (.tuple #[.int .i64 (get k kv), .bool true]) w := by
  obtain ⟨es, clock, hb, he⟩ := hm
  obtain ⟨x, hx⟩ := Option.isSome_iff_exists.1 hi
  have hu := Yba.underlying46
  unfold Instr.lookup
  simp only [Sem.run_bind, run_underlying hu, Result.andThen_ok, MapKept.run_getObj_map hb, Sem.run_pure, checkKey_run, findKey_run h hk es.toList kv ha he, hx]
  simp

theorem sameBits_key (pa : Nat → Nat) (k : Key) : Instr.sameBits 10000 (keyV pa k) (keyV pa k) = true := by
  unfold keyV
  rw [show (10000 : Nat) = 9999 + 1 from rfl]
  simp [Instr.sameBits]

theorem update_run {w : World} {b : Nat} {pa : Nat → Nat} {np : Nat} {kv : KV} (h : Apart w pa np) (hm : MapIs w b pa kv) (ha : All (Ok np) kv) {k : Key} (hk : Ok np k) (v : Int) :
    ∃ o, (Instr.mapUpdate 46 (.map (some b)) (keyV pa k) (.int .i64 v)).run Yba.prog w = .ok () { w with heap := w.heap.setIfInBounds b o } ∧ MapIs { w with heap := w.heap.setIfInBounds b o } b pa (put k v kv) := by
  obtain ⟨es, clock, hb, he⟩ := hm
  have hlt : b < w.heap.size := by
    rcases Nat.lt_or_ge b w.heap.size with hlt | hge
    · exact hlt
    · rw [Array.getElem?_eq_none hge] at hb; cases hb
  have hu := Yba.underlying46
  cases hi : idx k kv with
  | none =>
    refine ⟨.map (es.push { key := keyV pa k, val := .int .i64 v, born := clock }) (clock + 1), ?_, ?_⟩
    · unfold Instr.mapUpdate
      simp only [Sem.run_bind, run_underlying hu, Result.andThen_ok, MapKept.run_getObj_map hb, checkKey_run, findKey_run h hk es.toList kv ha he, hi, Option.map_none]
      exact MapKept.run_setObj_map _ hb
    · refine ⟨_, _, by show (w.heap.setIfInBounds b _)[b]? = _; rw [Array.getElem?_setIfInBounds_self_of_lt hlt], ?_⟩
      rw [(idx_none hi).2]
      simp [he, encE]
  | some x =>
    obtain ⟨hx, hg, hput⟩ := idx_some hi
    have hlen : es.size = kv.length := by
      have := congrArg List.length he
      simpa using this
    have hkx : ((es[x]?).map (·.key)).getD (keyV pa k) = keyV pa k := by
      have h1 := congrArg (fun l => l[x]?) he
      simp only [List.getElem?_map, Array.getElem?_toList, hg, Option.map_some] at h1
      obtain ⟨e, h2, h3⟩ := Option.map_eq_some_iff.1 h1
      rw [h2]
      simp only [encE, Prod.mk.injEq] at h3
      simp [h3.1]
    refine ⟨.map (es.modify x fun e => { e with key := keyV pa k, val := .int .i64 v }) clock, ?_, ?_⟩
    · unfold Instr.mapUpdate
      simp only [Sem.run_bind, run_underlying hu, Result.andThen_ok, MapKept.run_getObj_map hb, checkKey_run, findKey_run h hk es.toList kv ha he, hi, Option.map_some, hkx, Instr.keyThatStays, sameBits_key, if_true, Sem.run_pure]
      exact MapKept.run_setObj_map _ hb
    · refine ⟨_, _, by show (w.heap.setIfInBounds b _)[b]? = _; rw [Array.getElem?_setIfInBounds_self_of_lt hlt], ?_⟩
      rw [hput]
      apply List.ext_getElem?
      intro i
      have h1 := congrArg (fun l => l[i]?) he
      simp only [List.getElem?_map, Array.getElem?_toList] at h1
      simp only [List.getElem?_map, Array.getElem?_toList, Array.getElem?_modify, List.getElem?_set]
      by_cases e : x = i
      · subst e
        rw [if_pos rfl, if_pos rfl, if_pos hx]
        rw [Array.getElem?_eq_getElem (by omega)]
        simp [encE]
      · rw [if_neg e, if_neg e]
        exact h1
end Go.Proofs.Ybulkeyzg
