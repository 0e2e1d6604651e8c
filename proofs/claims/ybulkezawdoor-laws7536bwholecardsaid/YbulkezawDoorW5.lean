import Derived.Test.YbulkezawDoorW4
namespace Go.Proofs.YbulkezawDoor
open Go.RowKit

/-- what AddrOption answers -/
def ansOf (o : Opt) (z : Option Addr) : Value := if o.m = 4 then adr 0 (lo4 (o.E 0) (o.E 1) (o.E 2) (o.E 3)) z else adr 0 0 none

theorem stap (a : Addr) (w : World) : (Instr.arrayAt 48 (.slice (some a) 4 4)).run Ybad.prog w = .ok (.pointer (some a)) w := by kernel_rfl

set_option maxHeartbeats 1000000 in
theorem addr_hit4 (pb g n cap i : Nat) (base : Nat) (A : Nat → Option Addr) (o : Nat → Opt) (code : Int) (z : Option Addr) (w : World) (hz : w.cell? ⟨0, 0, none⟩ = some (.pointer z)) (h0 : 0 < w.heap.size) (hpb : pb < w.heap.size)
    (hn : n ≤ 4398046511104) (hp : w.cell? ⟨pb, 227, none⟩ = some (.slice (some ⟨g, 0, none⟩) n cap)) (hO : Opts w base g n A o) (hi : i < n) (he : (o i).c = code) (hm : ∀ j, j < i → (o j).c ≠ code) (h4 : (o i).m = 4) :
    Calls Ybad.prog 5 #[.pointer (some ⟨pb, 0, none⟩), .int .u8 code] w fun e w' => e = .returned (adr 0 (lo4 ((o i).E 0) ((o i).E 1) ((o i).E 2) ((o i).E 3)) z) ∧ Below w.heap.size w w' := by
  obtain ⟨hb, hg, hc⟩ := hO
  obtain ⟨c1, c2, hB⟩ := hc i hi
  rcases hB with ⟨_, _, hbad⟩ | ⟨_, gi, hA, hbi, hgi, hcells⟩
  · omega
  have W0 : Opts (w.alloc (Obj.cells #[Value.int IntKind.u64 0, Value.int IntKind.u64 0, Value.pointer none] 38)) base g n A o := Opts.below ⟨hb, hg, hc⟩ ((Below.refl _ _).alloc (Nat.le_refl _) _)
  have H := option_hit pb g n cap i base A o code (w.alloc (Obj.cells #[Value.int IntKind.u64 0, Value.int IntKind.u64 0, Value.pointer none] 38)) hn (by rw [World.cell?_alloc_past _ _ _ hpb]; exact hp) W0 hi he hm
  rw [h4, hA] at H
  rw [h4] at hcells
  have k0 := hcells 0 (by omega)
  have k1 := hcells 1 (by omega)
  have k2 := hcells 2 (by omega)
  have k3 := hcells 3 (by omega)
  clear hc c1 c2 he hm hcells W0 hp
  generalize (o i).E = E at *
  have hst := stap
  go_enter Ybad.func5, Ybad.ntmps5
  go_wp2_with fail
  refine H.mono ?_
  rintro e w1 ⟨rfl, hb1⟩
  have hs1 := hb1.size
  simp only [World.size_alloc] at hb1 hs1
  have p0 := (hb1.cell (p := ⟨gi, 0, none⟩) (by show gi < w.heap.size + 1; omega)).trans ((World.cell?_alloc_past _ _ _ hgi).trans k0)
  have p1 := (hb1.cell (p := ⟨gi, 1, none⟩) (by show gi < w.heap.size + 1; omega)).trans ((World.cell?_alloc_past _ _ _ hgi).trans k1)
  have p2 := (hb1.cell (p := ⟨gi, 2, none⟩) (by show gi < w.heap.size + 1; omega)).trans ((World.cell?_alloc_past _ _ _ hgi).trans k2)
  have p3 := (hb1.cell (p := ⟨gi, 3, none⟩) (by show gi < w.heap.size + 1; omega)).trans ((World.cell?_alloc_past _ _ _ hgi).trans k3)
  have pz := (hb1.cell (p := ⟨0, 0, none⟩) (by show 0 < w.heap.size + 1; omega)).trans ((World.cell?_alloc_past _ _ _ h0).trans hz)
  have hw1 : 0 < w1.heap.size := by omega
  have hbel : Below w.heap.size w w1 := ((Below.refl _ _).alloc (Nat.le_refl _) _).trans (hb1.mono (by omega))
  have r0 := (hb1.cell (p := ⟨w.heap.size, 0, none⟩) (by show w.heap.size < w.heap.size + 1; omega))
  have r1 := (hb1.cell (p := ⟨w.heap.size, 1, none⟩) (by show w.heap.size < w.heap.size + 1; omega))
  have r2 := (hb1.cell (p := ⟨w.heap.size, 2, none⟩) (by show w.heap.size < w.heap.size + 1; omega))
  have r3 := (hb1.frozen (p := ⟨w.heap.size, 0, none⟩) (by show w.heap.size < w.heap.size + 1; omega))
  have r4 := (hb1.frozen (p := ⟨w.heap.size, 1, none⟩) (by show w.heap.size < w.heap.size + 1; omega))
  have r5 := (hb1.frozen (p := ⟨w.heap.size, 2, none⟩) (by show w.heap.size < w.heap.size + 1; omega))
  simp at r0 r1 r2 r3 r4 r5
  have hl1 : w.heap.size < w1.heap.size := by omega
  have hl2 : w.heap.size < w1.heap.size + 1 := by omega
  go_wp2_with fail
  refine (from4_any (E 0) (E 1) (E 2) (E 3) z _ pz hw1).mono ?_
  rintro e w2 ⟨rfl, o1, o2, rfl⟩
  go_wp2_with fail
  refine bodyPost_ret (v := adr 0 (lo4 (E 0) (E 1) (E 2) (E 3)) z) (by simp [results, Ybad.results5, go_sem, adr, r0, r1, r2, hl1, hl2]) rfl ⟨rfl, ?_⟩
  exact ((((hbel.setCell (Nat.le_refl _) _).setCell (Nat.le_refl _) _).setCell (Nat.le_refl _) _).alloc (by simp [World.setCell]; omega) _).alloc (by simp [World.setCell]; omega) _

set_option maxHeartbeats 1000000 in
theorem addr_hit (pb g n cap i : Nat) (base : Nat) (A : Nat → Option Addr) (o : Nat → Opt) (code : Int) (w : World) (hpb : pb < w.heap.size)
    (hn : n ≤ 4398046511104) (hp : w.cell? ⟨pb, 227, none⟩ = some (.slice (some ⟨g, 0, none⟩) n cap)) (hO : Opts w base g n A o) (hi : i < n) (he : (o i).c = code) (hm : ∀ j, j < i → (o j).c ≠ code) (h4 : (o i).m ≠ 4) :
    Calls Ybad.prog 5 #[.pointer (some ⟨pb, 0, none⟩), .int .u8 code] w fun e w' => e = .returned (adr 0 0 none) ∧ Below w.heap.size w w' := by
  have W0 : Opts (w.alloc (Obj.cells #[Value.int IntKind.u64 0, Value.int IntKind.u64 0, Value.pointer none] 38)) base g n A o := Opts.below hO ((Below.refl _ _).alloc (Nat.le_refl _) _)
  have H := option_hit pb g n cap i base A o code (w.alloc (Obj.cells #[Value.int IntKind.u64 0, Value.int IntKind.u64 0, Value.pointer none] 38)) hn (by rw [World.cell?_alloc_past _ _ _ hpb]; exact hp) W0 hi he hm
  have h4' : (((o i).m : Int) == 4) = false := by simp; omega
  clear hO he hm W0 hp
  go_enter Ybad.func5, Ybad.ntmps5
  go_wp2_with fail
  refine H.mono ?_
  rintro e w1 ⟨rfl, hb1⟩
  have hs1 := hb1.size
  simp only [World.size_alloc] at hb1 hs1
  have hbel : Below w.heap.size w w1 := ((Below.refl _ _).alloc (Nat.le_refl _) _).trans (hb1.mono (by omega))
  have r0 := (hb1.cell (p := ⟨w.heap.size, 0, none⟩) (by show w.heap.size < w.heap.size + 1; omega))
  have r1 := (hb1.cell (p := ⟨w.heap.size, 1, none⟩) (by show w.heap.size < w.heap.size + 1; omega))
  have r2 := (hb1.cell (p := ⟨w.heap.size, 2, none⟩) (by show w.heap.size < w.heap.size + 1; omega))
  have r3 := (hb1.frozen (p := ⟨w.heap.size, 0, none⟩) (by show w.heap.size < w.heap.size + 1; omega))
  have r4 := (hb1.frozen (p := ⟨w.heap.size, 1, none⟩) (by show w.heap.size < w.heap.size + 1; omega))
  have r5 := (hb1.frozen (p := ⟨w.heap.size, 2, none⟩) (by show w.heap.size < w.heap.size + 1; omega))
  simp at r0 r1 r2 r3 r4 r5
  go_wp2_with fail
  exact bodyPost_ret (v := adr 0 0 none) (by simp [results, Ybad.results5, go_sem, adr, r0, r1, r2]) rfl ⟨rfl, ((hbel.setCell (Nat.le_refl _) _).setCell (Nat.le_refl _) _).setCell (Nat.le_refl _) _⟩

set_option maxHeartbeats 1000000 in
theorem addr_miss (pb n cap : Nat) (base : Nat) (nl : Bool) (L : Option Addr) (A : Nat → Option Addr) (o : Nat → Opt) (code : Int) (w : World) (hpb : pb < w.heap.size)
    (hn : n ≤ 4398046511104) (hp : w.cell? ⟨pb, 227, none⟩ = some (.slice L n cap)) (hL : Lst w base nl L n A o) (hm : ∀ j, j < n → (o j).c ≠ code) :
    Calls Ybad.prog 5 #[.pointer (some ⟨pb, 0, none⟩), .int .u8 code] w fun e w' => e = .returned (adr 0 0 none) ∧ Below w.heap.size w w' := by
  have W0 : Lst (w.alloc (Obj.cells #[Value.int IntKind.u64 0, Value.int IntKind.u64 0, Value.pointer none] 38)) base nl L n A o := Lst.below hL ((Below.refl _ _).alloc (Nat.le_refl _) _)
  have H := option_miss pb n cap base nl L A o code (w.alloc (Obj.cells #[Value.int IntKind.u64 0, Value.int IntKind.u64 0, Value.pointer none] 38)) hn (by rw [World.cell?_alloc_past _ _ _ hpb]; exact hp) W0 hm
  clear hL hm W0 hp
  go_enter Ybad.func5, Ybad.ntmps5
  go_wp2_with fail
  refine H.mono ?_
  rintro e w1 ⟨rfl, hb1⟩
  have hs1 := hb1.size
  simp only [World.size_alloc] at hb1 hs1
  have hbel : Below w.heap.size w w1 := ((Below.refl _ _).alloc (Nat.le_refl _) _).trans (hb1.mono (by omega))
  have r0 := (hb1.cell (p := ⟨w.heap.size, 0, none⟩) (by show w.heap.size < w.heap.size + 1; omega))
  have r1 := (hb1.cell (p := ⟨w.heap.size, 1, none⟩) (by show w.heap.size < w.heap.size + 1; omega))
  have r2 := (hb1.cell (p := ⟨w.heap.size, 2, none⟩) (by show w.heap.size < w.heap.size + 1; omega))
  have r3 := (hb1.frozen (p := ⟨w.heap.size, 0, none⟩) (by show w.heap.size < w.heap.size + 1; omega))
  have r4 := (hb1.frozen (p := ⟨w.heap.size, 1, none⟩) (by show w.heap.size < w.heap.size + 1; omega))
  have r5 := (hb1.frozen (p := ⟨w.heap.size, 2, none⟩) (by show w.heap.size < w.heap.size + 1; omega))
  simp at r0 r1 r2 r3 r4 r5
  go_wp2_with fail
  exact bodyPost_ret (v := adr 0 0 none) (by simp [results, Ybad.results5, go_sem, adr, r0, r1, r2]) rfl ⟨rfl, ((hbel.setCell (Nat.le_refl _) _).setCell (Nat.le_refl _) _).setCell (Nat.le_refl _) _⟩

/-- the first option of that code, or none -/
def ansTo (n : Nat) (o : Nat → Opt) (code : Int) (z : Option Addr) (v : Value) : Prop :=
  (∃ i, i < n ∧ (o i).c = code ∧ (∀ j, j < i → (o j).c ≠ code) ∧ v = ansOf (o i) z) ∨ ((∀ j, j < n → (o j).c ≠ code) ∧ v = adr 0 0 none)

theorem first_or (n : Nat) (o : Nat → Opt) (code : Int) : (∃ i, i < n ∧ (o i).c = code ∧ ∀ j, j < i → (o j).c ≠ code) ∨ ∀ j, j < n → (o j).c ≠ code := by
  induction n with
  | zero => exact Or.inr fun j hj => by omega
  | succ n ih =>
    rcases ih with ⟨i, hi, h⟩ | h
    · exact Or.inl ⟨i, by omega, h⟩
    · by_cases e : (o n).c = code
      · exact Or.inl ⟨n, by omega, e, h⟩
      · refine Or.inr fun j hj => ?_
        by_cases ej : j = n
        · subst ej; exact e
        · exact h j (by omega)

theorem addr_any (pb n cap : Nat) (base : Nat) (nl : Bool) (L : Option Addr) (A : Nat → Option Addr) (o : Nat → Opt) (code : Int) (z : Option Addr) (w : World) (hz : w.cell? ⟨0, 0, none⟩ = some (.pointer z)) (h0 : 0 < w.heap.size) (hpb : pb < w.heap.size)
    (hn : n ≤ 4398046511104) (hp : w.cell? ⟨pb, 227, none⟩ = some (.slice L n cap)) (hL : Lst w base nl L n A o) :
    Calls Ybad.prog 5 #[.pointer (some ⟨pb, 0, none⟩), .int .u8 code] w fun e w' => ∃ lo z', e = .returned (adr 0 lo z') ∧ ansTo n o code z (adr 0 lo z') ∧ Below w.heap.size w w' := by
  rcases first_or n o code with ⟨i, hi, he, hm⟩ | hm
  · rcases hL with ⟨_, _, hb⟩ | ⟨_, g, rfl, hO⟩
    · omega
    · by_cases h4 : (o i).m = 4
      · refine (addr_hit4 pb g n cap i base A o code z w hz h0 hpb hn hp hO hi he hm h4).mono ?_
        rintro e w' ⟨rfl, hb⟩
        exact ⟨_, _, rfl, Or.inl ⟨i, hi, he, hm, by unfold ansOf; rw [if_pos h4]⟩, hb⟩
      · refine (addr_hit pb g n cap i base A o code w hpb hn hp hO hi he hm h4).mono ?_
        rintro e w' ⟨rfl, hb⟩
        exact ⟨_, _, rfl, Or.inl ⟨i, hi, he, hm, by unfold ansOf; rw [if_neg h4]⟩, hb⟩
  · refine (addr_miss pb n cap base nl L A o code w hpb hn hp hL hm).mono ?_
    rintro e w' ⟨rfl, hb⟩
    exact ⟨_, _, rfl, Or.inr ⟨hm, rfl⟩, hb⟩
end Go.Proofs.YbulkezawDoor
