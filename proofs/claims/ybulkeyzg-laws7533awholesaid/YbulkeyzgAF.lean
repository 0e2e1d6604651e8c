import Derived.Test.YbulkeyzgProg
import Derived.WalkKit
namespace Go.Proofs.Ybulkeyzg
open Go.RowKit

/-- a part of a body, by the way to it: 0 left, 1 right -/
def nav : List Nat → Code → Code
  | [], c => c
  | d :: p, .seq a b => if d = 0 then nav p a else nav p b
  | _ :: p, .block _ c => nav p c
  | _ :: p, .loop c => nav p c
  | d :: p, .cond _ a b => if d = 0 then nav p a else nav p b
  | _, _ => .skip

/-- a frame of letters -/
def fr : Nat → (Nat → Value) → Nat → List Value
  | 0, _, _ => []
  | n + 1, x, i => x i :: fr n x (i + 1)

theorem fr_get : ∀ (n : Nat) (x : Nat → Value) (i k : Nat), k < n → (fr n x i)[k]? = some (x (i + k))
  | 0, _, _, _, h => by omega
  | n + 1, x, i, 0, _ => by simp [fr]
  | n + 1, x, i, k + 1, h => by
    simp only [fr, List.getElem?_cons_succ]
    rw [fr_get n x (i + 1) k (by omega)]
    congr 2; omega
theorem fr_len : ∀ (n : Nat) (x : Nat → Value) (i : Nat), (fr n x i).length = n
  | 0, _, _ => rfl
  | n + 1, x, i => by simp [fr, fr_len n x (i + 1)]

theorem act_fr {n : Nat} (a : Act) (hs : a.tmps.size = n) (hd : a.defers = []) : ∃ x : Nat → Value, a = ⟨(fr n x 0).toArray, []⟩ ∧ ∀ k v, a.tmps[k]? = some v → x k = v := by
  obtain ⟨l, d⟩ := a
  obtain ⟨l⟩ := l
  cases hd
  simp only [List.size_toArray] at hs
  refine ⟨fun k => l.getD k undef, ?_, fun k v h => ?_⟩
  · congr 2
    apply List.ext_getElem?
    intro k
    by_cases hk : k < n
    · rw [fr_get n _ 0 k hk, Nat.zero_add, List.getElem?_eq_getElem (by omega)]
      simp [List.getD, List.getElem?_eq_getElem (show k < l.length by omega)]
    · rw [List.getElem?_eq_none (by omega), List.getElem?_eq_none (by rw [fr_len]; omega)]
  · simp only [List.getElem?_toArray] at h
    simp [List.getD, h]

/-- a loop in its block, by an invariant over the frame -/
theorem wp_block_loop {P : Program} {id : Nat} {c : Code} {Q : Exit → Act → World → Prop} {a : Act} {w : World} (K : Act → World → Prop) (I : Act → World → Prop) (μ : Act → World → Nat) (h0 : I a w)
    (round : ∀ a w, I a w → c.wp P (Exit.then (fun a' w' => I a' w' ∧ μ a' w' < μ a w) (Exit.inBlock id (Exit.then K Q))) a w) : (Code.block id (.loop c)).wp P (Exit.then K Q) a w :=
  wp_block (wp_loop I μ h0 round)
end Go.Proofs.Ybulkeyzg
