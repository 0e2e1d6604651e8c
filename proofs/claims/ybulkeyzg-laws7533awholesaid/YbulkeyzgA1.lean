import Derived.Test.YbulkeyzgProg
import Derived.WalkKit
import Derived.WalkSpells
import Derived.WalkLawsBesides
import Derived.Laws.StructEq
import Derived.Laws.Pointers
import Derived.LaidEql
import Derived.LaidEqlPtr
import Derived.Deep.OwnRows
import Derived.Below
import Derived.MapKept
namespace Go.Proofs.Ybulkeyzg
open Go.RowKit

/-! ### the plain side: keys, lists of keys and numbers -/
abbrev Key := Nat × Nat × Nat
abbrev KV := List (Key × Int)

def idx (k : Key) : KV → Option Nat
  | [] => none
  | e :: l => if e.1 = k then some 0 else (idx k l).map (· + 1)
def get (k : Key) : KV → Int
  | [] => 0
  | e :: l => if e.1 = k then e.2 else get k l
def put (k : Key) (v : Int) : KV → KV
  | [] => [(k, v)]
  | e :: l => if e.1 = k then (k, v) :: l else e :: put k v l

theorem idx_none {k : Key} : ∀ {l : KV}, idx k l = none → get k l = 0 ∧ ∀ v, put k v l = l ++ [(k, v)]
  | [], _ => ⟨rfl, fun _ => rfl⟩
  | e :: l, h => by
    unfold idx at h
    by_cases he : e.1 = k
    · rw [if_pos he] at h; cases h
    · rw [if_neg he] at h
      have h' : idx k l = none := by
        cases hi : idx k l with
        | none => rfl
        | some x => rw [hi] at h; cases h
      obtain ⟨h1, h2⟩ := idx_none h'
      refine ⟨?_, fun v => ?_⟩
      · unfold get; rw [if_neg he]; exact h1
      · unfold put; rw [if_neg he, h2]; rfl

theorem idx_some {k : Key} : ∀ {l : KV} {x : Nat}, idx k l = some x → x < l.length ∧ l[x]? = some (k, get k l) ∧ ∀ v, put k v l = l.set x (k, v)
  | [], x, h => by cases h
  | e :: l, x, h => by
    unfold idx at h
    by_cases he : e.1 = k
    · rw [if_pos he] at h
      cases h
      refine ⟨by simp, ?_, fun v => ?_⟩
      · unfold get; rw [if_pos he]; subst he; rfl
      · unfold put; rw [if_pos he]; rfl
    · rw [if_neg he] at h
      cases hi : idx k l with
      | none => rw [hi] at h; cases h
      | some y =>
        rw [hi] at h
        cases h
        obtain ⟨h1, h2, h3⟩ := idx_some hi
        refine ⟨by simp only [List.length_cons]; omega, ?_, fun v => ?_⟩
        · unfold get; rw [if_neg he]; simpa using h2
        · unfold put; rw [if_neg he, h3]; rfl

theorem put_len (k : Key) (v : Int) : ∀ l : KV, (put k v l).length ≤ l.length + 1 ∧ l.length ≤ (put k v l).length
  | [] => by simp [put]
  | e :: l => by
    unfold put
    by_cases he : e.1 = k
    · rw [if_pos he]; simp
    · rw [if_neg he]
      have := put_len k v l
      simp only [List.length_cons]
      omega

/-- all keys of the list keep a rule -/
def All (q : Key → Prop) (l : KV) : Prop := ∀ e ∈ l, q e.1
theorem All.put {q : Key → Prop} {k : Key} {v : Int} (hk : q k) : ∀ {l : KV}, All q l → All q (put k v l)
  | [], _ => fun e he => by
    simp only [Ybulkeyzg.put, List.mem_singleton] at he
    subst he; exact hk
  | e0 :: l, h => fun e he => by
    unfold Ybulkeyzg.put at he
    by_cases h0 : e0.1 = k
    · rw [if_pos h0] at he
      rcases List.mem_cons.1 he with rfl | he
      · exact hk
      · exact h e (List.mem_cons_of_mem _ he)
    · rw [if_neg h0] at he
      rcases List.mem_cons.1 he with rfl | he
      · exact h _ (List.mem_cons_self ..)
      · exact All.put hk (fun e he => h e (List.mem_cons_of_mem _ he)) e he

/-! ### a change of the world that touches only the blocks S (and new ones) -/
structure Touch (S : Nat → Prop) (w w' : World) : Prop where
  os : w'.os = w.os
  tape : w'.tape = w.tape
  output : w'.output = w.output
  size : w.heap.size ≤ w'.heap.size
  block : ∀ k, k < w.heap.size → ¬ S k → w'.heap[k]? = w.heap[k]?

namespace Touch
variable {S S' : Nat → Prop} {w w' w'' : World}
theorem refl (S : Nat → Prop) (w : World) : Touch S w w := ⟨rfl, rfl, rfl, Nat.le_refl _, fun _ _ _ => rfl⟩
theorem trans (h : Touch S w w') (k : Touch S w' w'') : Touch S w w'' :=
  ⟨k.os.trans h.os, k.tape.trans h.tape, k.output.trans h.output, Nat.le_trans h.size k.size, fun b hb hs => (k.block b (Nat.lt_of_lt_of_le hb h.size) hs).trans (h.block b hb hs)⟩
theorem mono (h : Touch S w w') (hs : ∀ b, b < w.heap.size → S b → S' b) : Touch S' w w' := ⟨h.os, h.tape, h.output, h.size, fun b hb hn => h.block b hb fun hb' => hn (hs b hb hb')⟩
theorem drewN (h : Touch S w w') (q : Nat) : Touch S w (w'.drewN q) := ⟨h.os, h.tape, h.output, h.size, h.block⟩
theorem drew (h : Touch S w w') : Touch S w w'.drew := ⟨h.os, h.tape, h.output, h.size, h.block⟩
theorem alloc (h : Touch S w w') (o : Obj) : Touch S w (w'.alloc o) :=
  ⟨h.os, h.tape, h.output, by show w.heap.size ≤ (w'.heap.push o).size; rw [Array.size_push]; have := h.size; omega, fun b hb hn => (Go.Deep.blk_alloc_lt _ _ _ (Nat.lt_of_lt_of_le hb h.size)).trans (h.block b hb hn)⟩
theorem setCell (h : Touch S w w') {a : Addr} (ha : S a.block ∨ w.heap.size ≤ a.block) (v : Value) : Touch S w (w'.setCell a v) := by
  refine ⟨by unfold World.setCell; split <;> exact h.os, by unfold World.setCell; split <;> exact h.tape, by unfold World.setCell; split <;> exact h.output, ?_, fun b hb hn => (Go.Deep.blk_setCell_other _ _ _ _ ?_).trans (h.block b hb hn)⟩
  · have : (w'.setCell a v).heap.size = w'.heap.size := by unfold World.setCell; split <;> simp
    rw [this]; exact h.size
  · intro e
    rcases ha with ha | ha
    · exact hn (e ▸ ha)
    · omega
theorem grown {row : Option Nat} (h : Touch S w w') (hg : w'.grownBy w'' row) (hr : ∀ k, row = some k → S k ∨ w.heap.size ≤ k) : Touch S w w'' :=
  ⟨hg.os.trans h.os, hg.tape.trans h.tape, hg.output.trans h.output, Nat.le_trans h.size hg.size, fun b hb hn => (hg.block b (Nat.lt_of_lt_of_le hb h.size) fun e => by
    rcases hr b e.symm with h1 | h1
    · exact hn h1
    · omega).trans (h.block b hb hn)⟩
theorem below {N : Nat} {w0 : World} (hb : Below N w0 w) (h : Touch S w w') (hN : N ≤ w.heap.size) (hs : ∀ b, b < w.heap.size → S b → N ≤ b) : Below N w0 w' :=
  ⟨h.os.trans hb.os, h.tape.trans hb.tape, h.output.trans hb.output, Nat.le_trans hb.size h.size, fun b hbN => (h.block b (by omega) fun hS => by have := hs b (by omega) hS; omega).trans (hb.block b hbN)⟩
end Touch
end Go.Proofs.Ybulkeyzg
