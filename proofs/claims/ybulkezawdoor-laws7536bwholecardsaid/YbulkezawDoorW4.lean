import Derived.Test.YbulkezawDoorW3
namespace Go.Proofs.YbulkezawDoor
open Go.RowKit

/-- the low word of AddrFrom4's address -/
def lo4 (b0 b1 b2 b3 : Int) : Int :=
  bits BinOp.or IntKind.u64 (bits BinOp.or IntKind.u64 (bits BinOp.or IntKind.u64 (bits BinOp.or IntKind.u64 281470681743360 (IntKind.u64.wrap (IntKind.u64.wrap b0 * 16777216))) (IntKind.u64.wrap (IntKind.u64.wrap b1 * 65536))) (IntKind.u64.wrap (IntKind.u64.wrap b2 * 256))) (IntKind.u64.wrap b3)

/-- an address: its two words, its zone -/
abbrev adr (hi lo : Int) (z : Option Addr) : Value := .agg #[.int .u64 hi, .int .u64 lo, .pointer z]

set_option maxHeartbeats 1000000 in
theorem from4_any (b0 b1 b2 b3 : Int) (z : Option Addr) (w : World) (hz : w.cell? ⟨0, 0, none⟩ = some (.pointer z)) (h0 : 0 < w.heap.size) :
    Calls Ybad.prog 6 #[.agg #[.int .u8 b0, .int .u8 b1, .int .u8 b2, .int .u8 b3]] w fun e w' => e = .returned (adr 0 (lo4 b0 b1 b2 b3) z) ∧ ∃ c1 c2 : Array Value, w' = (w.alloc (.cells c1 48)).alloc (.cells c2 38) := by
  go_enter Ybad.func6, Ybad.ntmps6
  go_wp2_with fail
  exact bodyPost_ret (v := adr 0 (lo4 b0 b1 b2 b3) z) (by simp [results, Ybad.results6, go_sem, adr, lo4]) rfl ⟨rfl, _, _, rfl⟩

set_option maxHeartbeats 1000000 in
theorem equal_any (A B : Option Addr) (nl nl2 : Bool) (m base base2 : Nat) (E : Nat → Int) (w : World) (hA : BytesA w base A nl m E) (hB : BytesA w base2 B nl2 m E) :
    Calls Ybad.prog 7 #[.slice A m m, .slice B m m] w fun e w' => e = .returned (.bool true) ∧ w' = w := by
  have conv : ∀ (A : Option Addr) (nl : Bool) (base : Nat), BytesA w base A nl m E → ∃ s : ByteArray, s = strOfNums ((List.range m).map E) ∧ (convert 24 9 (.slice A m m)).run Ybad.prog w = .ok (.string s) w := by
    intro A nl base h
    rcases h with ⟨_, rfl, rfl⟩ | ⟨_, g, rfl, _, _, hc⟩
    · exact ⟨_, rfl, run_convert_bytes_nil (P := Ybad.prog) w 24 5 Ybad.underlying24 Ybad.underlying5 0 0 9 Ybad.underlying9⟩
    · refine ⟨_, rfl, run_convert_bytes_arg (P := Ybad.prog) w 24 5 Ybad.underlying24 Ybad.underlying5 g 0 m m ((List.range m).map E) (by simp) (fun i hi => ?_) 9 Ybad.underlying9⟩
      rw [Nat.zero_add, hc i hi]
      simp [List.getD, hi]
  obtain ⟨s, es, h1⟩ := conv A nl base hA
  obtain ⟨t, et, h2⟩ := conv B nl2 base2 hB
  rw [← es] at et
  subst et
  clear es conv hA hB
  go_enter Ybad.func7, Ybad.ntmps7
  go_wp2_with fail
  go_ret
  exact ⟨rfl, rfl⟩

set_option maxHeartbeats 1000000 in
theorem option_hit (pb g n cap i : Nat) (base : Nat) (A : Nat → Option Addr) (o : Nat → Opt) (code : Int) (w : World) (hn : n ≤ 4398046511104) (hp : w.cell? ⟨pb, 227, none⟩ = some (.slice (some ⟨g, 0, none⟩) n cap)) (hO : Opts w base g n A o) (hi : i < n) (he : (o i).c = code) (hm : ∀ j, j < i → (o j).c ≠ code) :
    Calls Ybad.prog 9 #[.pointer (some ⟨pb, 0, none⟩), .int .u8 code] w fun e w' => e = .returned (.tuple #[.slice (A i) (o i).m (o i).m, .bool true]) ∧ Below w.heap.size w w' := by
  have H := lookup_hit g n cap i base A o code w hn hO hi he hm
  clear hO he hm
  go_enter Ybad.func9, Ybad.ntmps9
  go_wp2_with fail
  refine H.mono ?_
  rintro e w' ⟨rfl, hbel⟩
  go_wp2_with fail
  go_ret2
  exact ⟨rfl, hbel⟩

set_option maxHeartbeats 1000000 in
theorem option_miss (pb n cap : Nat) (base : Nat) (nl : Bool) (L : Option Addr) (A : Nat → Option Addr) (o : Nat → Opt) (code : Int) (w : World) (hn : n ≤ 4398046511104) (hp : w.cell? ⟨pb, 227, none⟩ = some (.slice L n cap)) (hL : Lst w base nl L n A o) (hm : ∀ j, j < n → (o j).c ≠ code) :
    Calls Ybad.prog 9 #[.pointer (some ⟨pb, 0, none⟩), .int .u8 code] w fun e w' => e = .returned (.tuple #[.slice none 0 0, .bool false]) ∧ Below w.heap.size w w' := by
  have H := lookup_miss base nl L n cap A o code w hn hL hm
  clear hL hm
  go_enter Ybad.func9, Ybad.ntmps9
  go_wp2_with fail
  refine H.mono ?_
  rintro e w' ⟨rfl, hbel⟩
  go_wp2_with fail
  go_ret2
  exact ⟨rfl, hbel⟩
end Go.Proofs.YbulkezawDoor
