import Derived.Deep.Fields
import Derived.ProofKit
import Derived.SizedLaws
import Derived.OpenShut
import Derived.Test.YbulkexuoP17
namespace Go.Proofs.Ybulkexuo.lawB
open Go.ChangeShapes Go.WideShapes Go.ChangeAt Go.RowKit Go.Deep

/-- what is read of d lies within the form's reach -/
def Fits {H : Type} (P : Program) (t : TypeId) (d : DataW H) : Prop := ∀ n ∈ d.weights P t, n ≤ reachBytes

section
variable {H : Type} {enc : TypeId × Value → H} {P : Program} {w : World} {base : Nat} {spare : Nat → Bool} {held : Bool}

theorem fits_of {ts : List TypeId} {ds : List (DataW H)} (h : (DataW.weightsEach P ts ds).all (· ≤ reachBytes) = true) {j : Nat} {t : TypeId} {d : DataW H} (ht : ts[j]? = some t) (hd : ds[j]? = some d) : Fits P t d := fun n hn => by
  have := List.all_eq_true.1 h _ (DataW.weights_mem_each ht hd n hn)
  simpa using this

theorem weightsAll_mem {e : TypeId} : ∀ {ds : List (DataW H)} {d : DataW H}, d ∈ ds → ∀ n ∈ d.weights P e, n ∈ DataW.weightsAll P e ds
  | d0 :: ds, d, hd, n, hn => by
    simp only [DataW.weightsAll, List.mem_append]
    rcases List.mem_cons.1 hd with rfl | h
    · exact Or.inl hn
    · exact Or.inr (weightsAll_mem h n hn)

theorem fits_slice {t e : TypeId} {elems sp : List (DataW H)} (hu : P.underlying t = some (.slice e)) (h : Fits P t (.slice elems sp)) :
    (elems.length + sp.length) * P.bytesOf e ≤ reachBytes ∧ ∀ d ∈ elems, Fits P e d := by
  unfold Fits at h
  simp only [DataW.weights, hu] at h
  refine ⟨h _ (by simp), fun d hd n hn => h n ?_⟩
  simp only [List.mem_cons, List.mem_append]
  exact Or.inr (Or.inl (weightsAll_mem hd n hn))

theorem fits_agg {t : TypeId} {fs : Array Field} {parts : List (DataW H)} (hu : P.underlying t = some (.struct fs)) (h : Fits P t (.agg parts)) {j : Nat} {f : Field} {d : DataW H} (hf : fs[j]? = some f) (hd : parts[j]? = some d) : Fits P f.type d := by
  unfold Fits at h
  simp only [DataW.weights, hu] at h
  intro n hn
  refine h n (DataW.weights_mem_each (j := j) ?_ hd n hn)
  simp [hf]

/-- A SLICE OF STRUCTS WHOSE FIELDS ARE ONE CELL EACH, OPENED: cell j of element i holds V i j, which reads by the field's type, within the reach. -/
theorem open_structs {t e : TypeId} {fs : Array Field} {K fuel : Nat} {a : Option Addr} {len cap : Nat} {x : DataW H × List MemPlace} (ht : P.underlying t = some (.slice e)) (he : P.underlying e = some (.struct fs))
    (hone : ∀ (i : Nat) (f : Field), fs[i]? = some f → f.offset = i ∧ P.cellsOf f.type = 1) (hC : P.cellsOf e = K) (hK : fs.size = K) (hpos : 0 < K)
    (h : DataW.trod enc P w base spare held fuel t [.slice a len cap] = some x) (hfit : Fits P t x.1) :
    ∃ (n : Nat) (V : Nat → Nat → Value), len ≤ cap ∧ cap ≤ maxLen ∧ (a = none → len = 0 ∧ cap = 0) ∧ len * P.bytesOf e ≤ reachBytes ∧
      (0 < len → ∃ b off, a = some ⟨b, off, none⟩ ∧ b < w.heap.size ∧ ∀ i, i < len → ∀ (j : Nat) (f : Field), fs[j]? = some f →
        w.cell? ⟨b, off + (i * K + j), none⟩ = some (V i j) ∧ ∃ y, DataW.trod enc P w base spare held n f.type [V i j] = some y ∧ Fits P f.type y.1) := by
  rcases open_slice ht h with ⟨h0, _⟩ | ⟨ad, len', cap', m, n, D, Pl, hcs, hb, hl, hm, hmm, hx, hel⟩
  · simp at h0
    obtain ⟨rfl, rfl, rfl⟩ := h0
    exact ⟨0, fun _ _ => undef, Nat.le_refl _, Nat.zero_le _, fun _ => ⟨rfl, rfl⟩, by simp, fun h => by omega⟩
  · simp at hcs
    obtain ⟨rfl, rfl, rfl⟩ := hcs
    rw [hx] at hfit
    obtain ⟨hw, hd⟩ := fits_slice ht hfit
    have hlm : len ≤ m := by rw [hmm]; split <;> omega
    have each : ∀ i, i < len → ∃ V : Nat → Value, ∀ (j : Nat) (f : Field), fs[j]? = some f → w.cell? (ad.add (i * K + j)) = some (V j) ∧ ∃ y, DataW.trod enc P w base spare held (n - 1) f.type [V j] = some y ∧ Fits P f.type y.1 := by
      intro i hi
      obtain ⟨cs', h1, h2⟩ := hel i (by omega)
      rw [hC] at h1
      obtain ⟨_, hlen, hcell⟩ := World.cells?_some h1
      obtain ⟨xs, k, hk, hxs, _, hxl, hf⟩ := DataW.trod_struct he h2
      have hDi : Fits P e (D i) := hd _ (List.mem_map.2 ⟨i, List.mem_range.2 hi, rfl⟩)
      have hDe : D i = .agg (xs.map (·.1)) := by have := congrArg Prod.fst hxs; simpa using this
      rw [hDe] at hDi
      refine ⟨fun j => cs'.getD j undef, fun j f hj => ?_⟩
      have hlt : j < fs.size := (Array.getElem?_eq_some_iff.1 hj).1
      obtain ⟨ho, hc1⟩ := hone j f hj
      have g := hf j f hj
      rw [ho, hc1, take1_drop cs' j undef (by omega)] at g
      have e0 := hcell j (by omega)
      rw [add_add] at e0
      refine ⟨by rw [e0]; simp [List.getD, List.getElem?_eq_getElem (show j < cs'.length by omega)], ?_⟩
      rw [show n - 1 = k by omega, g, List.getElem?_eq_getElem (by omega)]
      refine ⟨_, rfl, fits_agg he hDi hj ?_⟩
      rw [List.getElem?_map, List.getElem?_eq_getElem (by omega)]
      rfl
    obtain ⟨V, hV⟩ := choose_lt (α := Nat → Value) each
    refine ⟨n - 1, V, hl, hm, (fun h => by cases h), ?_, fun hpl => ?_⟩
    · have : len * P.bytesOf e ≤ ((List.map D (List.range len)).length + (List.map (fun j => D (len + j)) (List.range (m - len))).length) * P.bytesOf e := Nat.mul_le_mul_right _ (by simp)
      exact Nat.le_trans this hw
    · obtain ⟨b, off, spot⟩ := ad
      obtain ⟨f0, hf0⟩ : ∃ f, fs[0]? = some f := ⟨fs[0]'(by omega), by simp [show 0 < fs.size by omega]⟩
      have hc0 := (hV 0 hpl 0 f0 hf0).1
      have hspot : spot = none := by simpa [Addr.add] using World.cell?_spot hc0
      subst hspot
      have hlt : b < w.heap.size := by
        have := World.block_lt_of_cell? w _ hc0
        simpa [Addr.add] using this
      refine ⟨b, off, rfl, hlt, fun i hi j f hj => ?_⟩
      have := hV i hi j f hj
      rwa [add_plain] at this

theorem trod_sliceV {t e : TypeId} {fuel : Nat} {v : Value} {x : DataW H × List MemPlace} (ht : P.underlying t = some (.slice e)) (h : DataW.trod enc P w base spare held fuel t [v] = some x) : ∃ a l c, v = .slice a l c := by
  rcases open_slice ht h with ⟨h0, _⟩ | ⟨ad, len', cap', m, n, D, Pl, hcs, _⟩
  · simp at h0
    exact ⟨_, _, _, h0⟩
  · simp at hcs
    exact ⟨_, _, _, hcs⟩
end

section
variable {H : Type} {enc : TypeId × Value → H} {w : World} {base : Nat} {spare : Nat → Bool} {held : Bool}
theorem bytes21 : Yba.prog.bytesOf 21 = 4 := by kernel_rfl
theorem cells21 : Yba.prog.cellsOf 21 = 1 := by kernel_rfl
theorem i32_of {z : Int} (h : (Lit.int .i32 z).wf = true) : i32 z := bounds_i32 h
theorem nat_u32 {z : Int} (h : (Lit.int .u32 z).wf = true) : ∃ n : Nat, z = n ∧ n < 4294967296 := by
  have := bounds_u32 h
  exact ⟨z.toNat, by omega, by omega⟩
theorem nat_u8 {z : Int} (h : (Lit.int .u8 z).wf = true) : ∃ n : Nat, z = n ∧ n < 256 := by
  have := bounds_u8 h
  exact ⟨z.toNat, by omega, by omega⟩
/-- the counts of a level -/
theorem open_counts {fuel : Nat} {v : Value} {x : DataW H × List MemPlace} (h : DataW.trod enc Yba.prog w base spare held fuel 33 [v] = some x) (hfit : Fits Yba.prog 33 x.1) :
    ∃ (A : Option Addr) (nb c : Nat) (f : Nat → Int), v = .slice A nb c ∧ nb ≤ 140737488355328 ∧ ∀ j, j < nb → i32 (f j) ∧ ∃ b off, A = some ⟨b, off, none⟩ ∧ b < w.heap.size ∧ w.cell? ⟨b, off + j, none⟩ = some (.int .i32 (f j)) := by
  rcases open_slice Yba.underlying33 h with ⟨h0, _⟩ | ⟨ad, len, cap, m, n, D, Pl, hcs, hb, hl, hm, hmm, hx, hel⟩
  · simp at h0
    exact ⟨none, 0, 0, fun _ => 0, h0, by omega, fun j hj => by omega⟩
  · simp at hcs
    subst hcs
    rw [hx] at hfit
    obtain ⟨hw, -⟩ := fits_slice Yba.underlying33 hfit
    have hlm : len ≤ m := by rw [hmm]; split <;> omega
    have hlen : len ≤ 140737488355328 := by
      rw [bytes21] at hw
      unfold reachBytes at hw
      simp at hw
      omega
    have each : ∀ j, j < len → ∃ f : Int, i32 f ∧ ∃ b off, some ad = some ⟨b, off, none⟩ ∧ b < w.heap.size ∧ w.cell? ⟨b, off + j, none⟩ = some (.int .i32 f) := by
      intro j hj
      obtain ⟨cs', h1, h2⟩ := hel j (by omega)
      rw [cells21] at h1
      obtain ⟨_, hl1, hcell⟩ := World.cells?_some h1
      obtain ⟨n0, rfl, _, wf⟩ := DataW.trod_int Yba.underlying21 h2
      have e0 := hcell 0 (by omega)
      rw [add_add] at e0
      obtain ⟨k, hk⟩ : ∃ k, k = 0 := ⟨0, rfl⟩
      obtain ⟨cz, z1, z2⟩ := hel k (by omega)
      rw [cells21] at z1
      obtain ⟨_, hlz, hcz⟩ := World.cells?_some z1
      have ez := (hcz 0 (by omega)).trans (List.getElem?_eq_getElem (by omega))
      obtain ⟨b, off, spot⟩ := ad
      have hspot : spot = none := by simpa [Addr.add, hk] using World.cell?_spot ez
      subst hspot
      rw [add_plain] at e0
      exact ⟨n0, i32_of wf, b, off, rfl, World.block_lt_of_cell? w _ e0, by simpa using e0⟩
    obtain ⟨f, hf⟩ := @choose_lt Int ⟨0⟩ len _ each
    exact ⟨some ad, len, cap, f, rfl, hlen, hf⟩
/-- the hand-offs given -/
theorem open_hands {fuel : Nat} {a : Option Addr} {len cap : Nat} {x : DataW H × List MemPlace} (h : DataW.trod enc Yba.prog w base spare held fuel 22 [.slice a len cap] = some x) (hfit : Fits Yba.prog 22 x.1) :
    ∃ f : Nat → Int × Int × Int × Int, ∀ i, i < len → (i32 (f i).1 ∧ i32 (f i).2.1 ∧ i32 (f i).2.2.1 ∧ i32 (f i).2.2.2) ∧ ∃ b off, a = some ⟨b, off, none⟩ ∧ b < w.heap.size ∧ w.cell? ⟨b, off + i * 4, none⟩ = some (.int .i32 (f i).1) ∧ w.cell? ⟨b, off + i * 4 + 1, none⟩ = some (.int .i32 (f i).2.1) ∧ w.cell? ⟨b, off + i * 4 + 2, none⟩ = some (.int .i32 (f i).2.2.1) ∧ w.cell? ⟨b, off + i * 4 + 3, none⟩ = some (.int .i32 (f i).2.2.2) := by
  obtain ⟨n, V, hl, hm, hnil, hw, hc⟩ := open_structs (K := 4) Yba.underlying22 Yba.underlying29 (hone_of (by kernel_rfl)) (by kernel_rfl) rfl (by omega) h hfit
  have each : ∀ i, i < len → ∃ f : Int × Int × Int × Int, (i32 f.1 ∧ i32 f.2.1 ∧ i32 f.2.2.1 ∧ i32 f.2.2.2) ∧ ∃ b off, a = some ⟨b, off, none⟩ ∧ b < w.heap.size ∧ w.cell? ⟨b, off + i * 4, none⟩ = some (.int .i32 f.1) ∧ w.cell? ⟨b, off + i * 4 + 1, none⟩ = some (.int .i32 f.2.1) ∧ w.cell? ⟨b, off + i * 4 + 2, none⟩ = some (.int .i32 f.2.2.1) ∧ w.cell? ⟨b, off + i * 4 + 3, none⟩ = some (.int .i32 f.2.2.2) := by
    intro i hi
    obtain ⟨b, off, e, hb, hx⟩ := hc (by omega)
    obtain ⟨c0, y0, t0, _⟩ := hx i hi 0 _ rfl
    obtain ⟨c1, y1, t1, _⟩ := hx i hi 1 _ rfl
    obtain ⟨c2, y2, t2, _⟩ := hx i hi 2 _ rfl
    obtain ⟨c3, y3, t3, _⟩ := hx i hi 3 _ rfl
    obtain ⟨n0, e0, _, wf0⟩ := DataW.trod_int Yba.underlying21 t0
    obtain ⟨n1, e1, _, wf1⟩ := DataW.trod_int Yba.underlying21 t1
    obtain ⟨n2, e2, _, wf2⟩ := DataW.trod_int Yba.underlying21 t2
    obtain ⟨n3, e3, _, wf3⟩ := DataW.trod_int Yba.underlying21 t3
    simp only [List.cons.injEq, and_true] at e0 e1 e2 e3
    rw [e0] at c0
    rw [e1] at c1
    rw [e2] at c2
    rw [e3] at c3
    exact ⟨(n0, n1, n2, n3), ⟨i32_of wf0, i32_of wf1, i32_of wf2, i32_of wf3⟩, b, off, e, hb, by simpa using c0, by simpa [Nat.add_assoc] using c1, by simpa [Nat.add_assoc] using c2, by simpa [Nat.add_assoc] using c3⟩
  exact @choose_lt (Int × Int × Int × Int) ⟨(0, 0, 0, 0)⟩ len _ each
/-- the rises given -/
theorem open_rises {fuel : Nat} {a : Option Addr} {len cap : Nat} {x : DataW H × List MemPlace} (h : DataW.trod enc Yba.prog w base spare held fuel 24 [.slice a len cap] = some x) (hfit : Fits Yba.prog 24 x.1) :
    ∃ f : Nat → Int × Int × Int × Bool, ∀ i, i < len → (i32 (f i).1 ∧ i32 (f i).2.1 ∧ i32 (f i).2.2.1) ∧ ∃ b off, a = some ⟨b, off, none⟩ ∧ b < w.heap.size ∧ w.cell? ⟨b, off + i * 4, none⟩ = some (.int .i32 (f i).1) ∧ w.cell? ⟨b, off + i * 4 + 1, none⟩ = some (.int .i32 (f i).2.1) ∧ w.cell? ⟨b, off + i * 4 + 2, none⟩ = some (.int .i32 (f i).2.2.1) ∧ w.cell? ⟨b, off + i * 4 + 3, none⟩ = some (.bool (f i).2.2.2) := by
  obtain ⟨n, V, hl, hm, hnil, hw, hc⟩ := open_structs (K := 4) Yba.underlying24 Yba.underlying44 (hone_of (by kernel_rfl)) (by kernel_rfl) rfl (by omega) h hfit
  have each : ∀ i, i < len → ∃ f : Int × Int × Int × Bool, (i32 f.1 ∧ i32 f.2.1 ∧ i32 f.2.2.1) ∧ ∃ b off, a = some ⟨b, off, none⟩ ∧ b < w.heap.size ∧ w.cell? ⟨b, off + i * 4, none⟩ = some (.int .i32 f.1) ∧ w.cell? ⟨b, off + i * 4 + 1, none⟩ = some (.int .i32 f.2.1) ∧ w.cell? ⟨b, off + i * 4 + 2, none⟩ = some (.int .i32 f.2.2.1) ∧ w.cell? ⟨b, off + i * 4 + 3, none⟩ = some (.bool f.2.2.2) := by
    intro i hi
    obtain ⟨b, off, e, hb, hx⟩ := hc (by omega)
    obtain ⟨c0, y0, t0, _⟩ := hx i hi 0 _ rfl
    obtain ⟨c1, y1, t1, _⟩ := hx i hi 1 _ rfl
    obtain ⟨c2, y2, t2, _⟩ := hx i hi 2 _ rfl
    obtain ⟨c3, y3, t3, _⟩ := hx i hi 3 _ rfl
    obtain ⟨n0, e0, _, wf0⟩ := DataW.trod_int Yba.underlying21 t0
    obtain ⟨n1, e1, _, wf1⟩ := DataW.trod_int Yba.underlying21 t1
    obtain ⟨n2, e2, _, wf2⟩ := DataW.trod_int Yba.underlying21 t2
    obtain ⟨n3, e3, _⟩ := DataW.trod_bool Yba.underlying4 t3
    simp only [List.cons.injEq, and_true] at e0 e1 e2 e3
    rw [e0] at c0
    rw [e1] at c1
    rw [e2] at c2
    rw [e3] at c3
    exact ⟨(n0, n1, n2, n3), ⟨i32_of wf0, i32_of wf1, i32_of wf2⟩, b, off, e, hb, by simpa using c0, by simpa [Nat.add_assoc] using c1, by simpa [Nat.add_assoc] using c2, by simpa [Nat.add_assoc] using c3⟩
  exact @choose_lt (Int × Int × Int × Bool) ⟨(0, 0, 0, false)⟩ len _ each
structure LD where
  mask : Nat
  A : Option Addr
  nc : Nat
  cc : Nat
  C : Nat → Int
def LDAt (w : World) (a : Option Addr) (i : Nat) (L : LD) : Prop :=
  L.mask < 4294967296 ∧ L.nc ≤ 140737488355328 ∧ (∃ b off, a = some ⟨b, off, none⟩ ∧ b < w.heap.size ∧ w.cell? ⟨b, off + i * 2, none⟩ = some (.int .u32 L.mask) ∧ w.cell? ⟨b, off + i * 2 + 1, none⟩ = some (.slice L.A L.nc L.cc)) ∧
  ∀ j, j < L.nc → i32 (L.C j) ∧ ∃ b off, L.A = some ⟨b, off, none⟩ ∧ b < w.heap.size ∧ w.cell? ⟨b, off + j, none⟩ = some (.int .i32 (L.C j))
/-- the levels given -/
theorem open_levels {fuel : Nat} {a : Option Addr} {len cap : Nat} {x : DataW H × List MemPlace} (h : DataW.trod enc Yba.prog w base spare held fuel 23 [.slice a len cap] = some x) (hfit : Fits Yba.prog 23 x.1) :
    ∃ f : Nat → LD, ∀ i, i < len → LDAt w a i (f i) := by
  obtain ⟨n, V, hl, hm, hnil, hw, hc⟩ := open_structs (K := 2) Yba.underlying23 Yba.underlying35 (hone_of (by kernel_rfl)) (by kernel_rfl) rfl (by omega) h hfit
  have each : ∀ i, i < len → ∃ f : LD, LDAt w a i f := by
    intro i hi
    obtain ⟨b, off, e, hb, hx⟩ := hc (by omega)
    obtain ⟨c0, y0, t0, _⟩ := hx i hi 0 _ rfl
    obtain ⟨c1, y1, t1, ft1⟩ := hx i hi 1 _ rfl
    obtain ⟨n0, e0, _, wf0⟩ := DataW.trod_int Yba.underlying30 t0
    obtain ⟨A, nb, c, f, e1, hnb, hf⟩ := open_counts t1 ft1
    simp only [List.cons.injEq, and_true] at e0
    obtain ⟨m0, rfl, g0⟩ := nat_u32 wf0
    rw [e0] at c0
    rw [e1] at c1
    exact ⟨⟨m0, A, nb, c, f⟩, g0, hnb, ⟨b, off, e, hb, by simpa using c0, by simpa [Nat.add_assoc] using c1⟩, hf⟩
  exact @choose_lt LD ⟨⟨0, none, 0, 0, fun _ => 0⟩⟩ len _ each
end
end Go.Proofs.Ybulkexuo.lawB
