import Derived.Test.YbulkexuoM0
namespace Go.Proofs.Ybulkexuo
open Go.RowKit

/-! ### the input as plain data -/
structure PD where
  N : Nat
  hto : Nat → Nat
  hpos : Nat → Int
  hcnt : Nat → Int
  hat : Nat → Int
  ll : Nat
  mask : Nat → Nat
  nc : Nat → Nat
  C : Nat → Nat → Int
  asp : Nat
  asc : Int
  aAt : Int
  gsp : Nat
  gsc : Int
  gAt : Int
def i32 (z : Int) : Prop := -2147483648 ≤ z ∧ z ≤ 2147483647
structure PD.Fine (D : PD) : Prop where
  N0 : 0 < D.N
  N20 : D.N ≤ 20
  hto : ∀ p, p < D.N → D.hto p < D.N
  down : ∀ p, p < D.N → 0 ≤ D.hat p → D.hto p < p
  ll : D.ll ≤ 4096
  mask : ∀ l, l < D.ll → D.mask l < 4294967296
  nc : ∀ l, l < D.ll → D.nc l ≤ 140737488355328
  C : ∀ l, l < D.ll → ∀ k, k < D.nc l → i32 (D.C l k)
  hpos : ∀ p, p < D.N → i32 (D.hpos p)
  hcnt : ∀ p, p < D.N → i32 (D.hcnt p)
  hat : ∀ p, p < D.N → i32 (D.hat p)
  asp : D.asp < D.N
  gsp : D.gsp < D.N
  asc : i32 D.asc
  aAt : i32 D.aAt
  gsc : i32 D.gsc
  gAt : i32 D.gAt

section
variable (D : PD)
def PD.bit (l q : Nat) : Bool := decide (D.mask l / 2 ^ q % 2 = 1)
/-- the count of q in level l -/
def PD.cnt (l q : Nat) : Int := if D.nc l = 0 then 1 else D.C l (rk (D.mask l) q % D.nc l)
def mx (a b : Int) : Int := if a < b then b else a
def PD.lkN (q : Nat) : Nat → Int × Bool
  | 0 => if q = D.asp ∧ 0 < D.asc then (D.asc, true) else (0, false)
  | l + 1 => if D.bit l q = true then (mx (PD.lkN q l).1 (D.cnt l q), true) else PD.lkN q l
def PD.lkp (q : Nat) : Int × Bool := D.lkN q D.ll
def PD.off (q : Nat) (at_ : Int) : Prop := D.hat q < 0 ∨ at_ < D.hat q
instance (q : Nat) (z : Int) : Decidable (D.off q z) := inferInstanceAs (Decidable (_ ∨ _))
/-- along the chain of hand-offs from q: whether its operation is counted -/
def PD.ch : Nat → Nat → Bool
  | 0, _ => false
  | f + 1, q => if (D.lkp (D.hto q)).2 = true then decide (D.hpos q ≤ (D.lkp (D.hto q)).1) else if D.off (D.hto q) D.aAt then false else PD.ch f (D.hto q)
def PD.hoff (q : Nat) : Int := if D.off q D.aAt then 0 else if D.ch D.N q = true then D.hcnt q else 0
def PD.seen (q : Nat) : Int := if (D.lkp q).2 = true then (D.lkp q).1 else D.hoff q
def PD.cval (q : Nat) : Int := if q = D.gsp ∧ D.seen q < D.gsc then D.gsc else D.seen q
end
theorem mx_i32 {a b : Int} (ha : i32 a) (hb : i32 b) : i32 (mx a b) := by unfold mx; split <;> assumption
section
variable {D : PD}
theorem PD.Fine.cnt (h : D.Fine) {l q : Nat} (hl : l < D.ll) : i32 (D.cnt l q) := by
  unfold PD.cnt
  split
  · exact ⟨by omega, by omega⟩
  · exact h.C l hl _ (Nat.mod_lt _ (by omega))
theorem PD.Fine.lkN (h : D.Fine) (q : Nat) : ∀ l, l ≤ D.ll → i32 (D.lkN q l).1
  | 0, _ => by
    unfold PD.lkN
    split
    · exact h.asc
    · exact ⟨by show (-2147483648 : Int) ≤ 0; omega, by show (0 : Int) ≤ 2147483647; omega⟩
  | l + 1, hl => by
    unfold PD.lkN
    split
    · exact mx_i32 (PD.Fine.lkN h q l (by omega)) (h.cnt (by omega))
    · exact PD.Fine.lkN h q l (by omega)
theorem PD.Fine.ch (h : D.Fine) : ∀ q, q < D.N → 0 ≤ D.hat q → ∀ f, q ≤ f → D.ch (f + 1) q = D.ch f q ∨ f = 0 := by
  intro q
  induction q using Nat.strongRecOn with
  | _ q ih =>
    intro hq h0 f hf
    cases f with
    | zero => exact .inr rfl
    | succ f =>
      left
      show (if _ then _ else if _ then _ else D.ch (f + 1) (D.hto q)) = (if _ then _ else if _ then _ else D.ch f (D.hto q))
      by_cases h1 : (D.lkp (D.hto q)).2 = true
      · rw [if_pos h1, if_pos h1]
      · rw [if_neg h1, if_neg h1]
        by_cases h2 : D.off (D.hto q) D.aAt
        · rw [if_pos h2, if_pos h2]
        · rw [if_neg h2, if_neg h2]
          have hd := h.down q hq h0
          have h3 : 0 ≤ D.hat (D.hto q) := by unfold PD.off at h2; omega
          rcases ih (D.hto q) hd (h.hto q hq) h3 f (by omega) with e | e
          · exact e
          · subst e
            have : D.hto q = 0 := by omega
            have := h.down (D.hto q) (h.hto q hq) h3
            omega
end
end Go.Proofs.Ybulkexuo
