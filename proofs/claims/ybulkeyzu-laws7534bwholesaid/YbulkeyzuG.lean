import Derived.Deep.OwnRows
import Derived.Below
namespace Go.Proofs.Ybulkeyzu
open Go.RowKit

/-- a small graph of classes: superclass, component, m interfaces f, array?, interface? -/
structure G where
  sup : Nat → Option Nat
  cmp : Nat → Option Nat
  m : Nat → Nat
  f : Nat → Nat → Nat
  arr : Nat → Bool
  isf : Nat → Bool

/-- every edge leads to a lower index -/
def IsG (g : G) (n : Nat) : Prop := ∀ i, i < n → (∀ s, g.sup i = some s → s < i) ∧ (∀ s, g.cmp i = some s → s < i) ∧ ∀ j, j < g.m i → g.f i j < i

/-- some edge of the first k says yes -/
def anyTo (p : Nat → Bool) : Nat → Bool
  | 0 => false
  | k + 1 => anyTo p k || p k

theorem anyTo_congr {p q : Nat → Bool} {k : Nat} (h : ∀ j, j < k → p j = q j) : anyTo p k = anyTo q k := by
  induction k with
  | zero => rfl
  | succ k ih => rw [anyTo, anyTo, ih (fun j hj => h j (by omega)), h k (by omega)]
theorem anyTo_false {p : Nat → Bool} {k : Nat} (h : ∀ j, j < k → p j = false) : anyTo p k = false := by
  induction k with
  | zero => rfl
  | succ k ih => rw [anyTo, ih (fun j hj => h j (by omega)), h k (by omega)]; rfl
theorem anyTo_true {p : Nat → Bool} {k j : Nat} (hj : j < k) (h : p j = true) : anyTo p k = true := by
  induction k with
  | zero => omega
  | succ k ih =>
    rw [anyTo]
    by_cases e : j = k
    · subst e; rw [h, Bool.or_true]
    · rw [ih (by omega), Bool.true_or]

/-- reachability by superclass and superinterface edges, with fuel -/
def rch (g : G) : Nat → Nat → Nat → Bool
  | 0, _, _ => false
  | k + 1, s, t => (s == t) || ((match g.sup s with | some p => rch g k p t | none => false) || anyTo (fun j => rch g k (g.f s j) t) (g.m s))
/-- .. by superclass edges alone -/
def srch (g : G) : Nat → Nat → Nat → Bool
  | 0, _, _ => false
  | k + 1, s, t => (s == t) || (match g.sup s with | some p => srch g k p t | none => false)

theorem rch_fuel {g : G} {n : Nat} (hg : IsG g n) : ∀ k k' s t, s < n → s < k → s < k' → rch g k s t = rch g k' s t
  | 0, _, _, _, _, h, _ => by omega
  | _, 0, _, _, _, _, h => by omega
  | k + 1, k' + 1, s, t, hn, h, h' => by
    obtain ⟨h1, _, h3⟩ := hg s hn
    rw [rch, rch]
    congr 2
    · cases e : g.sup s with
      | none => rfl
      | some p => have := h1 p e; exact rch_fuel hg k k' p t (by omega) (by omega) (by omega)
    · exact anyTo_congr fun j hj => by have := h3 j hj; exact rch_fuel hg k k' _ t (by omega) (by omega) (by omega)

theorem srch_fuel {g : G} {n : Nat} (hg : IsG g n) : ∀ k k' s t, s < n → s < k → s < k' → srch g k s t = srch g k' s t
  | 0, _, _, _, _, h, _ => by omega
  | _, 0, _, _, _, _, h => by omega
  | k + 1, k' + 1, s, t, hn, h, h' => by
    obtain ⟨h1, _, _⟩ := hg s hn
    rw [srch, srch]
    congr 1
    cases e : g.sup s with
    | none => rfl
    | some p => have := h1 p e; exact srch_fuel hg k k' p t (by omega) (by omega) (by omega)

def reach (g : G) (s t : Nat) : Bool := rch g (s + 1) s t
def sreach (g : G) (s t : Nat) : Bool := srch g (s + 1) s t

theorem reach_eq {g : G} {n : Nat} (hg : IsG g n) {s : Nat} (hs : s < n) (t : Nat) :
    reach g s t = ((s == t) || ((match g.sup s with | some p => reach g p t | none => false) || anyTo (fun j => reach g (g.f s j) t) (g.m s))) := by
  obtain ⟨h1, _, h3⟩ := hg s hs
  unfold reach
  rw [rch]
  congr 2
  · cases e : g.sup s with
    | none => rfl
    | some p => have := h1 p e; exact rch_fuel hg s (p + 1) p t (by omega) (by omega) (by omega)
  · exact anyTo_congr fun j hj => by have := h3 j hj; exact rch_fuel hg s (g.f s j + 1) _ t (by omega) (by omega) (by omega)

theorem sreach_eq {g : G} {n : Nat} (hg : IsG g n) {s : Nat} (hs : s < n) (t : Nat) :
    sreach g s t = ((s == t) || (match g.sup s with | some p => sreach g p t | none => false)) := by
  obtain ⟨h1, _, _⟩ := hg s hs
  unfold sreach
  rw [srch]
  congr 1
  cases e : g.sup s with
  | none => rfl
  | some p => have := h1 p e; exact srch_fuel hg s (p + 1) p t (by omega) (by omega) (by omega)

/-- what IsAssignableTo answers, with fuel -/
def asg (g : G) : Nat → Nat → Nat → Bool
  | 0, _, _ => false
  | k + 1, a, b => if !g.arr b || !g.arr a then (if g.isf b then reach g a b else sreach g a b)
    else match g.cmp a, g.cmp b with
      | some a', some b' => asg g k a' b'
      | _, _ => a == b

def ptr (CB : Nat → Nat) : Option Nat → Value
  | none => .pointer none
  | some i => .pointer (some ⟨CB i, 0, none⟩)

def nm (b : Bool) : ByteArray := if b then ⟨#[91, 120]⟩ else ⟨#[120]⟩
def fl (b : Bool) : Int := if b then 512 else 0

/-- the n Go types lie in memory, type i in block CB i -/
def Cls (w : World) (g : G) (CB : Nat → Nat) (i : Nat) : Prop :=
  ∃ (F : Nat → Value) (A : Option Addr) (c : Nat), w.rowIs (CB i) 43 20 F ∧ F 0 = .string (nm (g.arr i)) ∧ F 3 = .int .u16 (fl (g.isf i)) ∧ F 4 = ptr CB (g.sup i) ∧ F 5 = .slice A (g.m i) c ∧ F 8 = ptr CB (g.cmp i) ∧
    (0 < g.m i → ∃ ib, A = some ⟨ib, 0, none⟩ ∧ ∀ j, j < g.m i → w.cell? ⟨ib, j, none⟩ = some (ptr CB (some (g.f i j))))

def Laid (w : World) (g : G) (n : Nat) (CB : Nat → Nat) : Prop := (∀ i j, i < n → j < n → CB i = CB j → i = j) ∧ ∀ i, i < n → Cls w g CB i
end Go.Proofs.Ybulkeyzu
