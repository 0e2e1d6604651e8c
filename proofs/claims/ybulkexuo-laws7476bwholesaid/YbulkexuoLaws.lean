import Derived.Test.YbulkexuoFind
import Derived.Deep.OwnRows
import Derived.Laws.StructEq
import Derived.Deep.QuietTactic
import Derived.BigQuiet
namespace Go.Proofs.Ybulkexuo
open Go.RowKit

theorem info38 : (Yba.prog.info? 38).map (fun i => (i.zero, i.size, i.bytes)) = some (some (.agg #[.int .i32 0, .int .i32 0]), 2, 8) := by kernel_rfl

/-- 'copy' between rows whose elements take K cells -/
theorem run_copyK {P : Program} (w : World) (dT sT ty elem : TypeId) (g o dLen dCap : Nat) (a : Addr) (sLen sCap : Nat) (cur : Array Value) (t : TypeId) (cs : List Value) (K : Nat)
    (hu : P.underlying dT = some (.slice elem)) (hs : (P.info? elem).map (·.size) = some K)
    (hg : w.heap[g]? = some (.cells cur t (0, 0))) (hn : cs.length = Nat.min sLen dLen * K)
    (hsrc : ∀ j v, cs[j]? = some v → w.cell? (a.add j) = some v) (hfit : o + cs.length ≤ cur.size) (h1 : ∀ v ∈ cs, v.oneCell' = true) :
    (Builtin.copy_ #[dT, sT] ty #[.slice (some ⟨g, o, none⟩) dLen dCap, .slice (some a) sLen sCap]).run P w =
      .ok (goInt (Nat.min sLen dLen)) (w.setRow g (cur.toList.take o ++ cs ++ cur.toList.drop (o + cs.length)).toArray) := by
  have hl := run_loadCells_list (P := P) w a cs hsrc
  have hst := run_storeCells_at P g o t cs 0 cur w hg (by simpa using hfit) h1
  cases hq : P.info? elem with
  | none => simp [hq] at hs
  | some i =>
    have hi : i.size = K := by simpa [hq] using hs
    simp [Builtin.copy_, run_underlying hu, Builtin.lenOf, Builtin.firstCells, sizeOf, typeInfo, hq, hi, ← hn, hl, hst]

/-- the world behind a whole row is laid anew -/
theorem rowIs_setRow {w : World} {g n : Nat} {t : TypeId} {cur : Array Value} (hg : w.heap[g]? = some (.cells cur t (0, 0))) (cs : Array Value) (f : Nat → Value) (hn : cs.size = n) (hf : ∀ i, i < n → cs[i]? = some (f i)) :
    (w.setRow g cs).rowIs g t n f := ⟨cs, setRow_heap w g cur cs t _ hg, hn, hf⟩

/-- 'make([]T, n)', an element of K cells -/
theorem run_makeK {P : Program} (t e : TypeId) (zs : Array Value) (K bytes : Nat) (ht : P.underlying t = some (.slice e)) (hinfo : (P.info? e).map (fun i => (i.zero, i.size, i.bytes)) = some (some (.agg zs), K, bytes))
    (n : Nat) (hbytes : bytes * n ≤ 281474976710656) (h63 : n ≤ 9223372036854775807) (w : World) :
    (Instr.makeSlice t (.int .i64 (n : Int)) (.int .i64 (n : Int))).run P w = .ok (.slice (some ⟨w.heap.size, 0, none⟩) n n) (w.alloc (.cells (madeCells zs (n * K)) e)) := by
  obtain ⟨i, hi, hzz⟩ := Option.map_eq_some_iff.1 hinfo
  simp only [Prod.mk.injEq] at hzz
  obtain ⟨hz, hs, hb⟩ := hzz
  have hb' : (i.bytes : Int) * (n : Int) ≤ 281474976710656 := by
    have h : ((i.bytes * n : Nat) : Int) ≤ 281474976710656 := by rw [hb]; omega
    rwa [Int.natCast_mul] at h
  have hr := run_make (P := P) w t e i _ ht hi hz .i64 .i64 n n (by omega) (Int.le_refl _) hb' (by omega)
  simp only [Int.toNat_natCast, hs, Value.cells] at hr
  exact hr

theorem neq38 (x y x' y' : Int) (w : World) : (binOp .neq 38 (.agg #[.int .i32 x, .int .i32 y]) (.agg #[.int .i32 x', .int .i32 y'])).run Yba.prog w = .ok (.bool (!(x == x' && y == y'))) w := by
  have u3 := Yba.underlying21
  have hS : Yba.prog.underlying 38 = some (.struct (Yba.prog.fieldsOf 38)) := by kernel_rfl
  have hp : Yba.prog.stoodInHeld 38 = false := by kernel_rfl
  rw [run_neq_struct, show (10000 : Nat) = 9999 + 1 from rfl, run_equalIn_agg w 9999 38 _ _ hS hp]
  simp only [Program.fieldsOf, Yba.underlying38]
  go_simp
  by_cases h1 : x = x' <;> by_cases h2 : y = y' <;> simp [h1, h2]
end Go.Proofs.Ybulkexuo
