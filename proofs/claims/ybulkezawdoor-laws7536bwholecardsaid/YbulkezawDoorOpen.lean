import Derived.Deep.Fields
import Derived.ProofKit
import Derived.SizedLaws
namespace Go.Proofs.YbulkezawDoor
open Go.ChangeShapes Go.WideShapes Go.ChangeAt Go.RowKit Go.Deep

/-- what is read of d lies within the form's reach -/
def Fits {H : Type} (P : Program) (t : TypeId) (d : DataW H) : Prop := ∀ n ∈ d.weights P t, n ≤ reachBytes

section
variable {H : Type} {enc : TypeId × Value → H} {P : Program} {w : World} {base : Nat} {spare : Nat → Bool} {held : Bool}

theorem fits_of {ts : List TypeId} {ds : List (DataW H)} (h : (DataW.weightsEach P ts ds).all (· ≤ reachBytes) = true) {j : Nat} {t : TypeId} {d : DataW H} (ht : ts[j]? = some t) (hd : ds[j]? = some d) : Fits P t d := fun n hn => by
  have := List.all_eq_true.1 h _ (DataW.weights_mem_each ht hd n hn)
  simpa using this

theorem weightsAll_mem {e : TypeId} : ∀ {ds : List (DataW H)} {d : DataW H}, d ∈ ds → ∀ n ∈ d.weights P e, n ∈ DataW.weightsAll P e ds
  | d0 :: ds, d, hd, n, hn => by
    simp only [DataW.weightsAll, List.mem_append]
    rcases List.mem_cons.1 hd with rfl | h
    · exact Or.inl hn
    · exact Or.inr (weightsAll_mem h n hn)

theorem fits_slice {t e : TypeId} {elems sp : List (DataW H)} (hu : P.underlying t = some (.slice e)) (h : Fits P t (.slice elems sp)) :
    (elems.length + sp.length) * P.bytesOf e ≤ reachBytes ∧ ∀ d ∈ elems, Fits P e d := by
  unfold Fits at h
  simp only [DataW.weights, hu] at h
  refine ⟨h _ (by simp), fun d hd n hn => h n ?_⟩
  simp only [List.mem_cons, List.mem_append]
  exact Or.inr (Or.inl (weightsAll_mem hd n hn))

theorem fits_agg {t : TypeId} {fs : Array Field} {parts : List (DataW H)} (hu : P.underlying t = some (.struct fs)) (h : Fits P t (.agg parts)) {j : Nat} {f : Field} {d : DataW H} (hf : fs[j]? = some f) (hd : parts[j]? = some d) : Fits P f.type d := by
  unfold Fits at h
  simp only [DataW.weights, hu] at h
  intro n hn
  refine h n (DataW.weights_mem_each (j := j) ?_ hd n hn)
  simp [hf]

/-- A SLICE OF STRUCTS WHOSE FIELDS ARE ONE CELL EACH, OPENED: cell j of element i holds V i j, which reads by the field's type, within the reach. -/
theorem open_structs {t e : TypeId} {fs : Array Field} {K fuel : Nat} {a : Option Addr} {len cap : Nat} {x : DataW H × List MemPlace} (ht : P.underlying t = some (.slice e)) (he : P.underlying e = some (.struct fs))
    (hone : ∀ (i : Nat) (f : Field), fs[i]? = some f → f.offset = i ∧ P.cellsOf f.type = 1) (hC : P.cellsOf e = K) (hK : fs.size = K) (hpos : 0 < K)
    (h : DataW.trod enc P w base spare held fuel t [.slice a len cap] = some x) (hfit : Fits P t x.1) :
    ∃ (n : Nat) (V : Nat → Nat → Value), len ≤ cap ∧ cap ≤ maxLen ∧ (a = none → len = 0 ∧ cap = 0) ∧ len * P.bytesOf e ≤ reachBytes ∧
      (0 < len → ∃ b off, a = some ⟨b, off, none⟩ ∧ b < w.heap.size ∧ ∀ i, i < len → ∀ (j : Nat) (f : Field), fs[j]? = some f →
        w.cell? ⟨b, off + (i * K + j), none⟩ = some (V i j) ∧ ∃ y, DataW.trod enc P w base spare held n f.type [V i j] = some y ∧ Fits P f.type y.1) := by
  rcases open_slice ht h with ⟨h0, _⟩ | ⟨ad, len', cap', m, n, D, Pl, hcs, hb, hl, hm, hmm, hx, hel⟩
  · simp at h0
    obtain ⟨rfl, rfl, rfl⟩ := h0
    exact ⟨0, fun _ _ => undef, Nat.le_refl _, Nat.zero_le _, fun _ => ⟨rfl, rfl⟩, by simp, fun h => by omega⟩
  · simp at hcs
    obtain ⟨rfl, rfl, rfl⟩ := hcs
    rw [hx] at hfit
    obtain ⟨hw, hd⟩ := fits_slice ht hfit
    have hlm : len ≤ m := by rw [hmm]; split <;> omega
    have each : ∀ i, i < len → ∃ V : Nat → Value, ∀ (j : Nat) (f : Field), fs[j]? = some f → w.cell? (ad.add (i * K + j)) = some (V j) ∧ ∃ y, DataW.trod enc P w base spare held (n - 1) f.type [V j] = some y ∧ Fits P f.type y.1 := by
      intro i hi
      obtain ⟨cs', h1, h2⟩ := hel i (by omega)
      rw [hC] at h1
      obtain ⟨_, hlen, hcell⟩ := World.cells?_some h1
      obtain ⟨xs, k, hk, hxs, _, hxl, hf⟩ := DataW.trod_struct he h2
      have hDi : Fits P e (D i) := hd _ (List.mem_map.2 ⟨i, List.mem_range.2 hi, rfl⟩)
      have hDe : D i = .agg (xs.map (·.1)) := by have := congrArg Prod.fst hxs; simpa using this
      rw [hDe] at hDi
      refine ⟨fun j => cs'.getD j undef, fun j f hj => ?_⟩
      have hlt : j < fs.size := (Array.getElem?_eq_some_iff.1 hj).1
      obtain ⟨ho, hc1⟩ := hone j f hj
      have g := hf j f hj
      rw [ho, hc1, take1_drop cs' j undef (by omega)] at g
      have e0 := hcell j (by omega)
      rw [add_add] at e0
      refine ⟨by rw [e0]; simp [List.getD, List.getElem?_eq_getElem (show j < cs'.length by omega)], ?_⟩
      rw [show n - 1 = k by omega, g, List.getElem?_eq_getElem (by omega)]
      refine ⟨_, rfl, fits_agg he hDi hj ?_⟩
      rw [List.getElem?_map, List.getElem?_eq_getElem (by omega)]
      rfl
    obtain ⟨V, hV⟩ := choose_lt (α := Nat → Value) each
    refine ⟨n - 1, V, hl, hm, (fun h => by cases h), ?_, fun hpl => ?_⟩
    · have : len * P.bytesOf e ≤ ((List.map D (List.range len)).length + (List.map (fun j => D (len + j)) (List.range (m - len))).length) * P.bytesOf e := Nat.mul_le_mul_right _ (by simp)
      exact Nat.le_trans this hw
    · obtain ⟨b, off, spot⟩ := ad
      obtain ⟨f0, hf0⟩ : ∃ f, fs[0]? = some f := ⟨fs[0]'(by omega), by simp [show 0 < fs.size by omega]⟩
      have hc0 := (hV 0 hpl 0 f0 hf0).1
      have hspot : spot = none := by simpa [Addr.add] using World.cell?_spot hc0
      subst hspot
      have hlt : b < w.heap.size := by
        have := World.block_lt_of_cell? w _ hc0
        simpa [Addr.add] using this
      refine ⟨b, off, rfl, hlt, fun i hi j f hj => ?_⟩
      have := hV i hi j f hj
      rwa [add_plain] at this

/-- A SLICE OF INTEGERS IN A CELL, OPENED. -/
theorem open_nums {t e : TypeId} {k : IntKind} {fuel : Nat} {v : Value} {x : DataW H × List MemPlace} (ht : P.underlying t = some (.slice e)) (he : P.underlying e = some (.int k)) (hc : P.cellsOf e = 1)
    (h : DataW.trod enc P w base spare held fuel t [v] = some x) (hfit : Fits P t x.1) :
    ∃ (a : Option Addr) (l cap : Nat) (Z : Nat → Int), v = .slice a l cap ∧ l ≤ cap ∧ cap ≤ maxLen ∧ (a = none → l = 0 ∧ cap = 0) ∧ l * P.bytesOf e ≤ reachBytes ∧
      (0 < l → ∃ b off, a = some ⟨b, off, none⟩ ∧ b < w.heap.size ∧ ∀ j, j < l → w.cell? ⟨b, off + j, none⟩ = some (.int k (Z j)) ∧ (Lit.int k (Z j)).wf = true) := by
  rcases open_slice1 ht hc h with ⟨h0, _⟩ | ⟨ad, len, cap, m, n, V, D, Pl, hcs, hb, hl, hm, hmm, hx, hel⟩
  · simp at h0
    subst h0
    exact ⟨none, 0, 0, fun _ => 0, rfl, Nat.le_refl _, Nat.zero_le _, fun _ => ⟨rfl, rfl⟩, by simp, fun h => by omega⟩
  · simp at hcs
    subst hcs
    rw [hx] at hfit
    obtain ⟨hw, _⟩ := fits_slice ht hfit
    have hlm : len ≤ m := by rw [hmm]; split <;> omega
    refine ⟨some ad, len, cap, fun j => intOf (V j), rfl, hl, hm, (fun h => by cases h), ?_, fun hpl => ?_⟩
    · have : len * P.bytesOf e ≤ ((List.map D (List.range len)).length + (List.map (fun j => D (len + j)) (List.range (m - len))).length) * P.bytesOf e := Nat.mul_le_mul_right _ (by simp)
      exact Nat.le_trans this hw
    · have hc0 := (hel 0 (by omega)).1
      obtain ⟨b, off, spot⟩ := ad
      have hspot : spot = none := by simpa [Addr.add] using World.cell?_spot hc0
      subst hspot
      have hlt : b < w.heap.size := by
        have := World.block_lt_of_cell? w _ hc0
        simpa [Addr.add] using this
      refine ⟨b, off, rfl, hlt, fun j hj => ?_⟩
      obtain ⟨h1, h2⟩ := hel j (by omega)
      obtain ⟨z, e1, _, wf⟩ := DataW.trod_int he h2
      simp only [List.cons.injEq, and_true] at e1
      rw [add_plain, e1] at h1
      dsimp only
      rw [e1]
      exact ⟨h1, wf⟩
end
end Go.Proofs.YbulkezawDoor
