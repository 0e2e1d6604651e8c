import Derived.Test.YbulkezawDoorW2
import Derived.Deep.Slices
namespace Go.Proofs.YbulkezawDoor
open Go.RowKit

/-- as 'Bytes', the address apart -/
def BytesA (w : World) (base : Nat) (A : Option Addr) (nl : Bool) (m : Nat) (E : Nat → Int) : Prop :=
  (nl = true ∧ A = none ∧ m = 0) ∨ (nl = false ∧ ∃ g, A = some ⟨g, 0, none⟩ ∧ base ≤ g ∧ g < w.heap.size ∧ ∀ j, j < m → w.cell? ⟨g, j, none⟩ = some (.int .u8 (E j)))

theorem Bytes.apart {w : World} {base : Nat} {v : Value} {nl : Bool} {m : Nat} {E : Nat → Int} (h : Bytes w base v nl m E) : ∃ A, v = .slice A m m ∧ BytesA w base A nl m E := by
  rcases h with ⟨h1, h2, h3⟩ | ⟨h1, g, h2, h3⟩
  · subst h3; exact ⟨none, h2, Or.inl ⟨h1, rfl, rfl⟩⟩
  · exact ⟨_, h2, Or.inr ⟨h1, g, rfl, h3⟩⟩

theorem BytesA.below {w w' : World} {base : Nat} {A : Option Addr} {nl : Bool} {m : Nat} {E : Nat → Int} (h : BytesA w base A nl m E) (hb : Below w.heap.size w w') : BytesA w' base A nl m E := by
  rcases h with h | ⟨h1, g, h2, h3, h4, h5⟩
  · exact Or.inl h
  · exact Or.inr ⟨h1, g, h2, h3, Nat.lt_of_lt_of_le h4 hb.size, fun j hj => (hb.cell (p := ⟨g, j, none⟩) h4).trans (h5 j hj)⟩

/-- the options in a row at block g, their data at the addresses A -/
def Opts (w : World) (base g n : Nat) (A : Nat → Option Addr) (o : Nat → Opt) : Prop :=
  base ≤ g ∧ g < w.heap.size ∧ ∀ i, i < n → w.cell? ⟨g, i * 2, none⟩ = some (.int .u8 (o i).c) ∧ w.cell? ⟨g, i * 2 + 1, none⟩ = some (.slice (A i) (o i).m (o i).m) ∧ BytesA w base (A i) (o i).nl (o i).m (o i).E

theorem Opts.below {w w' : World} {base g n : Nat} {A : Nat → Option Addr} {o : Nat → Opt} (h : Opts w base g n A o) (hb : Below w.heap.size w w') : Opts w' base g n A o := by
  obtain ⟨h1, h2, h3⟩ := h
  refine ⟨h1, Nat.lt_of_lt_of_le h2 hb.size, fun i hi => ?_⟩
  obtain ⟨c1, c2, c3⟩ := h3 i hi
  exact ⟨(hb.cell (p := ⟨g, i * 2, none⟩) h2).trans c1, (hb.cell (p := ⟨g, i * 2 + 1, none⟩) h2).trans c2, c3.below hb⟩

theorem Built.opts {w : World} {base : Nat} {v : Value} {n : Nat} {o : Nat → Opt} (h : Built w base v n o) : ∃ g A, v = .slice (some ⟨g, 0, none⟩) n n ∧ Opts w base g n A o := by
  obtain ⟨g, V, hv, hb, hg, hc⟩ := h
  obtain ⟨A, hA⟩ := Go.Deep.choose_lt (α := Option Addr) (n := n) (p := fun i a => w.cell? ⟨g, i * 2, none⟩ = some (.int .u8 (o i).c) ∧ w.cell? ⟨g, i * 2 + 1, none⟩ = some (.slice a (o i).m (o i).m) ∧ BytesA w base a (o i).nl (o i).m (o i).E) (fun i hi => by
    obtain ⟨c1, c2, c3⟩ := hc i hi
    obtain ⟨a, e, hB⟩ := c3.apart
    exact ⟨a, c1, by rw [c2, e], hB⟩)
  exact ⟨g, A, hv, hb, hg, hA⟩

/-- the list of options that build gives: nil where what came in was nil -/
def Lst (w : World) (base : Nat) (nl : Bool) (L : Option Addr) (n : Nat) (A : Nat → Option Addr) (o : Nat → Opt) : Prop :=
  (nl = true ∧ L = none ∧ n = 0) ∨ (nl = false ∧ ∃ g, L = some ⟨g, 0, none⟩ ∧ Opts w base g n A o)

theorem Lst.below {w w' : World} {base n : Nat} {nl : Bool} {L : Option Addr} {A : Nat → Option Addr} {o : Nat → Opt} (h : Lst w base nl L n A o) (hb : Below w.heap.size w w') : Lst w' base nl L n A o := by
  rcases h with h | ⟨h1, g, h2, h3⟩
  · exact Or.inl h
  · exact Or.inr ⟨h1, g, h2, h3.below hb⟩

/-- what came in: nil, or n options -/
def InOpts (w : World) (a : Option Addr) (n cap : Nat) (o : Nat → Opt) : Prop :=
  (a = none → n = 0 ∧ cap = 0) ∧ (0 < n → ∃ b off, a = some ⟨b, off, none⟩ ∧ b < w.heap.size ∧ IsOpts w b off n o)

theorem InOpts.below {w w' : World} {a : Option Addr} {n cap : Nat} {o : Nat → Opt} (h : InOpts w a n cap o) (hb : Below w.heap.size w w') : InOpts w' a n cap o := by
  refine ⟨h.1, fun hn => ?_⟩
  obtain ⟨b, off, e, hlt, hO⟩ := h.2 hn
  exact ⟨b, off, e, Nat.lt_of_lt_of_le hlt hb.size, hO.below hlt hb⟩

theorem build_any (a : Option Addr) (n cap : Nat) (o : Nat → Opt) (w : World) (hn : n ≤ 4398046511104) (hI : InOpts w a n cap o) :
    Calls Ybad.prog 4 #[.slice a n cap] w fun e w' => ∃ L A, e = .returned (.slice L n n) ∧ Lst w' w.heap.size a.isNone L n A o ∧ Below w.heap.size w w' := by
  cases a with
  | none =>
    obtain ⟨rfl, rfl⟩ := hI.1 rfl
    refine (build_nil w).mono ?_
    rintro e w' ⟨rfl, rfl⟩
    exact ⟨none, fun _ => none, rfl, Or.inl ⟨rfl, rfl, rfl⟩, Below.refl _ _⟩
  | some x =>
    by_cases h0 : 0 < n
    · obtain ⟨b, off, he, hb, hO⟩ := hI.2 h0
      cases he
      refine (build_some b off n cap o w hn h0 hb hO).mono ?_
      rintro e w' ⟨v, rfl, hB, hbel⟩
      obtain ⟨g, A, rfl, hOp⟩ := hB.opts
      exact ⟨_, A, rfl, Or.inr ⟨rfl, g, rfl, hOp⟩, hbel⟩
    · obtain rfl : n = 0 := by omega
      refine (build_empty x cap w).mono ?_
      rintro e w' ⟨rfl, rfl⟩
      exact ⟨_, fun _ => none, rfl, Or.inr ⟨rfl, _, rfl, Nat.le_refl _, by simp, fun i hi => by omega⟩, (Below.refl _ _).alloc (Nat.le_refl _) _⟩

set_option maxHeartbeats 1000000 in
theorem lookup_hit (g n cap i : Nat) (base : Nat) (A : Nat → Option Addr) (o : Nat → Opt) (code : Int) (w : World) (hn : n ≤ 4398046511104) (hO : Opts w base g n A o) (hi : i < n) (he : (o i).c = code) (hm : ∀ j, j < i → (o j).c ≠ code) :
    Calls Ybad.prog 10 #[.slice (some ⟨g, 0, none⟩) n cap, .int .u8 code] w fun e w' => e = .returned (.tuple #[.slice (A i) (o i).m (o i).m, .bool true]) ∧ Below w.heap.size w w' := by
  obtain ⟨hb, hg, hc⟩ := hO
  go_enter Ybad.func10, Ybad.ntmps10
  go_wp2_with fail
  go_loopw [10] (fun t wr => ∃ k : Nat, k ≤ i ∧ t = .int .i64 k ∧ Below w.heap.size w wr) (fun t _ => n - (intOf t).toNat)
  case atStart => exact ⟨0, by omega, rfl, Below.refl _ _⟩
  case round =>
    obtain ⟨k, hk, rfl, hbel⟩ := hrel
    have hsz := hbel.size
    obtain ⟨c1, c2, _⟩ := hc k (by omega)
    have d1 := (hbel.cell (p := ⟨g, k * 2, none⟩) hg).trans c1
    have d2 := (hbel.cell (p := ⟨g, k * 2 + 1, none⟩) hg).trans c2
    clear c1 c2
    by_cases hki : k = i
    · subst hki
      have hq : ((o k).c == code) = true := by simp [he]
      clear he hm hc
      go_wp2_with fail
      go_ret2
      exact ⟨rfl, hbel.alloc hsz _⟩
    · have hq : ((o k).c == code) = false := by simp; exact hm k (by omega)
      clear he hm hc
      go_wp2_with fail
      go_roundw
      case rel => exact ⟨k + 1, by omega, by go_num, hbel.alloc hsz _⟩
      case measure => simp [intOf]; omega

set_option maxHeartbeats 1000000 in
theorem lookup_miss (base : Nat) (nl : Bool) (L : Option Addr) (n cap : Nat) (A : Nat → Option Addr) (o : Nat → Opt) (code : Int) (w : World) (hn : n ≤ 4398046511104) (hL : Lst w base nl L n A o) (hm : ∀ j, j < n → (o j).c ≠ code) :
    Calls Ybad.prog 10 #[.slice L n cap, .int .u8 code] w fun e w' => e = .returned (.tuple #[.slice none 0 0, .bool false]) ∧ Below w.heap.size w w' := by
  go_enter Ybad.func10, Ybad.ntmps10
  go_wp2_with fail
  go_loopw [10] (fun t wr => ∃ k : Nat, k ≤ n ∧ t = .int .i64 k ∧ Below w.heap.size w wr) (fun t _ => n - (intOf t).toNat)
  case atStart => exact ⟨0, by omega, rfl, Below.refl _ _⟩
  case round =>
    obtain ⟨k, hk, rfl, hbel⟩ := hrel
    have hsz := hbel.size
    by_cases hkn : k < n
    · rcases hL with ⟨_, _, h0⟩ | ⟨_, g, rfl, hb, hg, hc⟩
      · omega
      · obtain ⟨c1, c2, _⟩ := hc k hkn
        have d1 := (hbel.cell (p := ⟨g, k * 2, none⟩) hg).trans c1
        have d2 := (hbel.cell (p := ⟨g, k * 2 + 1, none⟩) hg).trans c2
        have hq : ((o k).c == code) = false := by simp; exact hm k hkn
        clear c1 c2 hm hc
        go_wp2_with fail
        go_roundw
        case rel => exact ⟨k + 1, by omega, by go_num, hbel.alloc hsz _⟩
        case measure => simp [intOf]; omega
    · clear hm hL
      go_wp2_with fail
      go_ret2
      exact ⟨rfl, hbel⟩
end Go.Proofs.YbulkezawDoor
