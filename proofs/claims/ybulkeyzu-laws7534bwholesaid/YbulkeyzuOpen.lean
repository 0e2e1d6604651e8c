import Derived.Deep.Fields
import Derived.ProofKit
namespace Go.Proofs.Ybulkeyzu
open Go.ChangeShapes Go.WideShapes Go.ChangeAt Go.RowKit Go.Deep

section
variable {H : Type} {enc : TypeId × Value → H} {P : Program} {w : World} {base : Nat} {spare : Nat → Bool} {held : Bool}

theorem choose_from {α : Type} [Inhabited α] {n : Nat} {p : Nat → α → Prop} (h : ∀ i, i < n → ∃ x, p i x) : ∃ f : Nat → α, ∀ i, i < n → p i (f i) := choose_lt h

/-- A SLICE OF STRUCTS WHOSE FIELDS ARE ONE CELL EACH, OPENED: cell j of element i holds V i j, which reads by the field's type. -/
theorem open_structs {t e : TypeId} {fs : Array Field} {K fuel : Nat} {a : Option Addr} {len cap : Nat} {x : DataW H × List MemPlace} (ht : P.underlying t = some (.slice e)) (he : P.underlying e = some (.struct fs))
    (hone : ∀ (i : Nat) (f : Field), fs[i]? = some f → f.offset = i ∧ P.cellsOf f.type = 1) (hC : P.cellsOf e = K) (hK : fs.size = K) (hpos : 0 < K)
    (h : DataW.trod enc P w base spare held fuel t [.slice a len cap] = some x) :
    ∃ (n : Nat) (V : Nat → Nat → Value), len ≤ cap ∧ cap ≤ maxLen ∧ (a = none → len = 0 ∧ cap = 0) ∧
      (0 < len → ∃ b off, a = some ⟨b, off, none⟩ ∧ b < w.heap.size ∧ ∀ i, i < len → ∀ (j : Nat) (f : Field), fs[j]? = some f →
        w.cell? ⟨b, off + (i * K + j), none⟩ = some (V i j) ∧ ∃ y, DataW.trod enc P w base spare held n f.type [V i j] = some y) := by
  rcases open_slice ht h with ⟨h0, _⟩ | ⟨ad, len', cap', m, n, D, Pl, hcs, hb, hl, hm, hmm, _, hx⟩
  · simp at h0
    obtain ⟨rfl, rfl, rfl⟩ := h0
    exact ⟨0, fun _ _ => undef, Nat.le_refl _, Nat.zero_le _, fun _ => ⟨rfl, rfl⟩, fun h => by omega⟩
  · simp at hcs
    obtain ⟨rfl, rfl, rfl⟩ := hcs
    have hlm : len ≤ m := by rw [hmm]; split <;> omega
    have each : ∀ i, i < len → ∃ V : Nat → Value, ∀ (j : Nat) (f : Field), fs[j]? = some f → w.cell? (ad.add (i * K + j)) = some (V j) ∧ ∃ y, DataW.trod enc P w base spare held (n - 1) f.type [V j] = some y := by
      intro i hi
      obtain ⟨cs', h1, h2⟩ := hx i (by omega)
      rw [hC] at h1
      obtain ⟨_, hlen, hcell⟩ := World.cells?_some h1
      obtain ⟨xs, k, hk, _, _, hxl, hf⟩ := DataW.trod_struct he h2
      refine ⟨fun j => cs'.getD j undef, fun j f hj => ?_⟩
      have hlt : j < fs.size := (Array.getElem?_eq_some_iff.1 hj).1
      obtain ⟨ho, hc1⟩ := hone j f hj
      have g := hf j f hj
      rw [ho, hc1, take1_drop cs' j undef (by omega)] at g
      have e0 := hcell j (by omega)
      rw [add_add] at e0
      refine ⟨by rw [e0]; simp [List.getD, List.getElem?_eq_getElem (show j < cs'.length by omega)], ?_⟩
      rw [show n - 1 = k by omega, g, List.getElem?_eq_getElem (by omega)]
      exact ⟨_, rfl⟩
    obtain ⟨V, hV⟩ := choose_from (α := Nat → Value) each
    refine ⟨n - 1, V, hl, hm, (fun h => by cases h), fun hpl => ?_⟩
    obtain ⟨b, off, spot⟩ := ad
    obtain ⟨f0, hf0⟩ : ∃ f, fs[0]? = some f := ⟨fs[0]'(by omega), by simp [show 0 < fs.size by omega]⟩
    have hc0 := (hV 0 hpl 0 f0 hf0).1
    have hspot : spot = none := by simpa [Addr.add] using World.cell?_spot hc0
    subst hspot
    have hlt : b < w.heap.size := by
      have := World.block_lt_of_cell? w _ hc0
      simpa [Addr.add] using this
    refine ⟨b, off, rfl, hlt, fun i hi j f hj => ?_⟩
    have := hV i hi j f hj
    rwa [add_plain] at this

/-- A SLICE OF INTEGERS IN A CELL, OPENED. -/
theorem open_nums {t e : TypeId} {k : IntKind} {fuel : Nat} {v : Value} {x : DataW H × List MemPlace} (ht : P.underlying t = some (.slice e)) (he : P.underlying e = some (.int k)) (hc : P.cellsOf e = 1)
    (h : DataW.trod enc P w base spare held fuel t [v] = some x) :
    ∃ (a : Option Addr) (l cap : Nat) (Z : Nat → Int), v = .slice a l cap ∧ l ≤ cap ∧ cap ≤ maxLen ∧
      (0 < l → ∃ b off, a = some ⟨b, off, none⟩ ∧ b < w.heap.size ∧ ∀ j, j < l → w.cell? ⟨b, off + j, none⟩ = some (.int k (Z j)) ∧ (Lit.int k (Z j)).wf = true) := by
  rcases open_slice1 ht hc h with ⟨h0, _⟩ | ⟨ad, len, cap, m, n, V, D, Pl, hcs, hb, hl, hm, hmm, _, hel⟩
  · simp at h0
    subst h0
    exact ⟨none, 0, 0, fun _ => 0, rfl, Nat.le_refl _, Nat.zero_le _, fun h => by omega⟩
  · simp at hcs
    subst hcs
    have hlm : len ≤ m := by rw [hmm]; split <;> omega
    refine ⟨some ad, len, cap, fun j => intOf (V j), rfl, hl, hm, fun hpl => ?_⟩
    have hc0 := (hel 0 (by omega)).1
    obtain ⟨b, off, spot⟩ := ad
    have hspot : spot = none := by simpa [Addr.add] using World.cell?_spot hc0
    subst hspot
    have hlt : b < w.heap.size := by
      have := World.block_lt_of_cell? w _ hc0
      simpa [Addr.add] using this
    refine ⟨b, off, rfl, hlt, fun j hj => ?_⟩
    obtain ⟨h1, h2⟩ := hel j (by omega)
    obtain ⟨z, e1, _, wf⟩ := DataW.trod_int he h2
    simp only [List.cons.injEq, and_true] at e1
    rw [add_plain, e1] at h1
    dsimp only
    rw [e1]
    exact ⟨h1, wf⟩
end
end Go.Proofs.Ybulkeyzu
