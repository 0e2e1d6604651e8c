import Derived.Deep.Fields
import Derived.ProofKit
import Derived.SizedLaws
import Derived.OpenShut
import Derived.Test.YbulkeyzgA8
namespace Go.Proofs.Ybulkeyzg
open Go.ChangeShapes Go.WideShapes Go.ChangeAt Go.RowKit Go.Deep

/-- what is read of d lies within the form's reach -/
def Fits {H : Type} (P : Program) (t : TypeId) (d : DataW H) : Prop := ∀ n ∈ d.weights P t, n ≤ reachBytes

section
variable {H : Type} {enc : TypeId × Value → H} {P : Program} {w : World} {base : Nat} {spare : Nat → Bool} {held : Bool}

theorem fits_of {ts : List TypeId} {ds : List (DataW H)} (h : (DataW.weightsEach P ts ds).all (· ≤ reachBytes) = true) {j : Nat} {t : TypeId} {d : DataW H} (ht : ts[j]? = some t) (hd : ds[j]? = some d) : Fits P t d := fun n hn => by
  have := List.all_eq_true.1 h _ (DataW.weights_mem_each ht hd n hn)
  simpa using this

theorem weightsAll_mem {e : TypeId} : ∀ {ds : List (DataW H)} {d : DataW H}, d ∈ ds → ∀ n ∈ d.weights P e, n ∈ DataW.weightsAll P e ds
  | d0 :: ds, d, hd, n, hn => by
    simp only [DataW.weightsAll, List.mem_append]
    rcases List.mem_cons.1 hd with rfl | h
    · exact Or.inl hn
    · exact Or.inr (weightsAll_mem h n hn)

theorem fits_slice {t e : TypeId} {elems sp : List (DataW H)} (hu : P.underlying t = some (.slice e)) (h : Fits P t (.slice elems sp)) :
    (elems.length + sp.length) * P.bytesOf e ≤ reachBytes ∧ ∀ d ∈ elems, Fits P e d := by
  unfold Fits at h
  simp only [DataW.weights, hu] at h
  refine ⟨h _ (by simp), fun d hd n hn => h n ?_⟩
  simp only [List.mem_cons, List.mem_append]
  exact Or.inr (Or.inl (weightsAll_mem hd n hn))

theorem fits_agg {t : TypeId} {fs : Array Field} {parts : List (DataW H)} (hu : P.underlying t = some (.struct fs)) (h : Fits P t (.agg parts)) {j : Nat} {f : Field} {d : DataW H} (hf : fs[j]? = some f) (hd : parts[j]? = some d) : Fits P f.type d := by
  unfold Fits at h
  simp only [DataW.weights, hu] at h
  intro n hn
  refine h n (DataW.weights_mem_each (j := j) ?_ hd n hn)
  simp [hf]

/-- A SLICE OF STRUCTS WHOSE FIELDS ARE ONE CELL EACH, OPENED: cell j of element i holds V i j, which reads by the field's type, within the reach. -/
theorem open_structs {t e : TypeId} {fs : Array Field} {K fuel : Nat} {a : Option Addr} {len cap : Nat} {x : DataW H × List MemPlace} (ht : P.underlying t = some (.slice e)) (he : P.underlying e = some (.struct fs))
    (hone : ∀ (i : Nat) (f : Field), fs[i]? = some f → f.offset = i ∧ P.cellsOf f.type = 1) (hC : P.cellsOf e = K) (hK : fs.size = K) (hpos : 0 < K)
    (h : DataW.trod enc P w base spare held fuel t [.slice a len cap] = some x) (hfit : Fits P t x.1) :
    ∃ (n : Nat) (V : Nat → Nat → Value), len ≤ cap ∧ cap ≤ maxLen ∧ (a = none → len = 0 ∧ cap = 0) ∧ len * P.bytesOf e ≤ reachBytes ∧
      (0 < len → ∃ b off, a = some ⟨b, off, none⟩ ∧ b < w.heap.size ∧ ∀ i, i < len → ∀ (j : Nat) (f : Field), fs[j]? = some f →
        w.cell? ⟨b, off + (i * K + j), none⟩ = some (V i j) ∧ ∃ y, DataW.trod enc P w base spare held n f.type [V i j] = some y ∧ Fits P f.type y.1) := by
  rcases open_slice ht h with ⟨h0, _⟩ | ⟨ad, len', cap', m, n, D, Pl, hcs, hb, hl, hm, hmm, hx, hel⟩
  · simp at h0
    obtain ⟨rfl, rfl, rfl⟩ := h0
    exact ⟨0, fun _ _ => undef, Nat.le_refl _, Nat.zero_le _, fun _ => ⟨rfl, rfl⟩, by simp, fun h => by omega⟩
  · simp at hcs
    obtain ⟨rfl, rfl, rfl⟩ := hcs
    rw [hx] at hfit
    obtain ⟨hw, hd⟩ := fits_slice ht hfit
    have hlm : len ≤ m := by rw [hmm]; split <;> omega
    have each : ∀ i, i < len → ∃ V : Nat → Value, ∀ (j : Nat) (f : Field), fs[j]? = some f → w.cell? (ad.add (i * K + j)) = some (V j) ∧ ∃ y, DataW.trod enc P w base spare held (n - 1) f.type [V j] = some y ∧ Fits P f.type y.1 := by
      intro i hi
      obtain ⟨cs', h1, h2⟩ := hel i (by omega)
      rw [hC] at h1
      obtain ⟨_, hlen, hcell⟩ := World.cells?_some h1
      obtain ⟨xs, k, hk, hxs, _, hxl, hf⟩ := DataW.trod_struct he h2
      have hDi : Fits P e (D i) := hd _ (List.mem_map.2 ⟨i, List.mem_range.2 hi, rfl⟩)
      have hDe : D i = .agg (xs.map (·.1)) := by have := congrArg Prod.fst hxs; simpa using this
      rw [hDe] at hDi
      refine ⟨fun j => cs'.getD j undef, fun j f hj => ?_⟩
      have hlt : j < fs.size := (Array.getElem?_eq_some_iff.1 hj).1
      obtain ⟨ho, hc1⟩ := hone j f hj
      have g := hf j f hj
      rw [ho, hc1, take1_drop cs' j undef (by omega)] at g
      have e0 := hcell j (by omega)
      rw [add_add] at e0
      refine ⟨by rw [e0]; simp [List.getD, List.getElem?_eq_getElem (show j < cs'.length by omega)], ?_⟩
      rw [show n - 1 = k by omega, g, List.getElem?_eq_getElem (by omega)]
      refine ⟨_, rfl, fits_agg he hDi hj ?_⟩
      rw [List.getElem?_map, List.getElem?_eq_getElem (by omega)]
      rfl
    obtain ⟨V, hV⟩ := choose_lt (α := Nat → Value) each
    refine ⟨n - 1, V, hl, hm, (fun h => by cases h), ?_, fun hpl => ?_⟩
    · have : len * P.bytesOf e ≤ ((List.map D (List.range len)).length + (List.map (fun j => D (len + j)) (List.range (m - len))).length) * P.bytesOf e := Nat.mul_le_mul_right _ (by simp)
      exact Nat.le_trans this hw
    · obtain ⟨b, off, spot⟩ := ad
      obtain ⟨f0, hf0⟩ : ∃ f, fs[0]? = some f := ⟨fs[0]'(by omega), by simp [show 0 < fs.size by omega]⟩
      have hc0 := (hV 0 hpl 0 f0 hf0).1
      have hspot : spot = none := by simpa [Addr.add] using World.cell?_spot hc0
      subst hspot
      have hlt : b < w.heap.size := by
        have := World.block_lt_of_cell? w _ hc0
        simpa [Addr.add] using this
      refine ⟨b, off, rfl, hlt, fun i hi j f hj => ?_⟩
      have := hV i hi j f hj
      rwa [add_plain] at this

theorem trod_sliceV {t e : TypeId} {fuel : Nat} {v : Value} {x : DataW H × List MemPlace} (ht : P.underlying t = some (.slice e)) (h : DataW.trod enc P w base spare held fuel t [v] = some x) : ∃ a l c, v = .slice a l c := by
  rcases open_slice ht h with ⟨h0, _⟩ | ⟨ad, len', cap', m, n, D, Pl, hcs, _⟩
  · simp at h0
    exact ⟨_, _, _, h0⟩
  · simp at hcs
    exact ⟨_, _, _, hcs⟩
end

section
variable {H : Type} {enc : TypeId × Value → H} {w : World} {base : Nat} {spare : Nat → Bool} {held : Bool}
theorem nat_u8 {z : Int} (h : (Lit.int .u8 z).wf = true) : ∃ n : Nat, z = n ∧ n < 256 := by
  have := bounds_u8 h
  exact ⟨z.toNat, by omega, by omega⟩
theorem bytes36 : Yba.prog.bytesOf 36 = 4 := by kernel_rfl
theorem bytes27 : Yba.prog.bytesOf 27 = 40 := by kernel_rfl
theorem bytes55 : Yba.prog.bytesOf 55 = 16 := by kernel_rfl
theorem bytes31 : Yba.prog.bytesOf 31 = 72 := by kernel_rfl
theorem bytes74 : Yba.prog.bytesOf 74 = 4 := by kernel_rfl
theorem bytes80 : Yba.prog.bytesOf 80 = 1 := by kernel_rfl

theorem open_pages {fuel : Nat} {a : Option Addr} {len cap : Nat} {x : DataW H × List MemPlace} (h : DataW.trod enc Yba.prog w base spare held fuel 22 [.slice a len cap] = some x) (hfit : Fits Yba.prog 22 x.1) :
    ∃ f : Nat → Nat × Nat, len ≤ 140737488355328 ∧ ∀ i, i < len → (f i).1 < 65536 ∧ (f i).2 < 256 ∧ ∃ b off, a = some ⟨b, off, none⟩ ∧ b < w.heap.size ∧ w.cell? ⟨b, off + i * 2, none⟩ = some (.int .u16 (f i).1) ∧ w.cell? ⟨b, off + i * 2 + 1, none⟩ = some (.int .u8 (f i).2) := by
  obtain ⟨n, V, hl, hm, hnil, hw, hc⟩ := open_structs (K := 2) Yba.underlying22 Yba.underlying36 (hone_of (by kernel_rfl)) (by kernel_rfl) rfl (by omega) h hfit
  have hlen : len ≤ 140737488355328 := by
    rw [bytes36] at hw
    unfold reachBytes at hw
    omega
  have each : ∀ i, i < len → ∃ f : Nat × Nat, f.1 < 65536 ∧ f.2 < 256 ∧ ∃ b off, a = some ⟨b, off, none⟩ ∧ b < w.heap.size ∧ w.cell? ⟨b, off + i * 2, none⟩ = some (.int .u16 f.1) ∧ w.cell? ⟨b, off + i * 2 + 1, none⟩ = some (.int .u8 f.2) := by
    intro i hi
    obtain ⟨b, off, e, hb, hx⟩ := hc (by omega)
    obtain ⟨c0, y0, t0, _⟩ := hx i hi 0 _ rfl
    obtain ⟨c1, y1, t1, _⟩ := hx i hi 1 _ rfl
    obtain ⟨n0, e0, _, wf0⟩ := DataW.trod_int Yba.underlying34 t0
    obtain ⟨n1, e1, _, wf1⟩ := DataW.trod_int Yba.underlying5 t1
    simp only [List.cons.injEq, and_true] at e0 e1
    have g0 := bounds_u16 wf0
    obtain ⟨m0, rfl⟩ : ∃ m : Nat, n0 = m := ⟨n0.toNat, by omega⟩
    obtain ⟨m1, rfl, g1⟩ := nat_u8 wf1
    rw [e0] at c0
    rw [e1] at c1
    exact ⟨(m0, m1), by show m0 < 65536; omega, g1, b, off, e, hb, by simpa using c0, by simpa [Nat.add_assoc] using c1⟩
  obtain ⟨f, hf⟩ := @choose_lt (Nat × Nat) ⟨(0, 0)⟩ len _ each
  exact ⟨f, hlen, hf⟩

theorem open_bits {fuel : Nat} {v : Value} {x : DataW H × List MemPlace} (h : DataW.trod enc Yba.prog w base spare held fuel 25 [v] = some x) (hfit : Fits Yba.prog 25 x.1) :
    ∃ (A : Option Addr) (nb c : Nat) (f : Nat → (Nat × Nat × Nat) × Int), v = .slice A nb c ∧ nb ≤ 140737488355328 ∧ ∀ j, j < nb → ((f j).1.1 < 256 ∧ (f j).1.2.1 < 256 ∧ (f j).1.2.2 < 256) ∧ ∃ b off, A = some ⟨b, off, none⟩ ∧ b < w.heap.size ∧
      w.cell? ⟨b, off + j * 4, none⟩ = some (.int .u8 (f j).1.1) ∧ w.cell? ⟨b, off + j * 4 + 1, none⟩ = some (.int .u8 (f j).1.2.1) ∧ w.cell? ⟨b, off + j * 4 + 2, none⟩ = some (.int .u8 (f j).1.2.2) ∧ w.cell? ⟨b, off + j * 4 + 3, none⟩ = some (.int .i64 (f j).2) := by
  obtain ⟨A, nb, c, rfl⟩ := trod_sliceV Yba.underlying25 h
  obtain ⟨n, V, hl, hm, hnil, hw, hc⟩ := open_structs (K := 4) Yba.underlying25 Yba.underlying55 (hone_of (by kernel_rfl)) (by kernel_rfl) rfl (by omega) h hfit
  have hlen : nb ≤ 140737488355328 := by
    rw [bytes55] at hw
    unfold reachBytes at hw
    omega
  have each : ∀ j, j < nb → ∃ f : (Nat × Nat × Nat) × Int, (f.1.1 < 256 ∧ f.1.2.1 < 256 ∧ f.1.2.2 < 256) ∧ ∃ b off, A = some ⟨b, off, none⟩ ∧ b < w.heap.size ∧
      w.cell? ⟨b, off + j * 4, none⟩ = some (.int .u8 f.1.1) ∧ w.cell? ⟨b, off + j * 4 + 1, none⟩ = some (.int .u8 f.1.2.1) ∧ w.cell? ⟨b, off + j * 4 + 2, none⟩ = some (.int .u8 f.1.2.2) ∧ w.cell? ⟨b, off + j * 4 + 3, none⟩ = some (.int .i64 f.2) := by
    intro i hi
    obtain ⟨b, off, e, hb, hx⟩ := hc (by omega)
    obtain ⟨c0, y0, t0, _⟩ := hx i hi 0 _ rfl
    obtain ⟨c1, y1, t1, _⟩ := hx i hi 1 _ rfl
    obtain ⟨c2, y2, t2, _⟩ := hx i hi 2 _ rfl
    obtain ⟨c3, y3, t3, _⟩ := hx i hi 3 _ rfl
    obtain ⟨n0, e0, _, wf0⟩ := DataW.trod_int Yba.underlying5 t0
    obtain ⟨n1, e1, _, wf1⟩ := DataW.trod_int Yba.underlying5 t1
    obtain ⟨n2, e2, _, wf2⟩ := DataW.trod_int Yba.underlying5 t2
    obtain ⟨n3, e3, _, _⟩ := DataW.trod_int Yba.underlying3 t3
    simp only [List.cons.injEq, and_true] at e0 e1 e2 e3
    obtain ⟨m0, rfl, g0⟩ := nat_u8 wf0
    obtain ⟨m1, rfl, g1⟩ := nat_u8 wf1
    obtain ⟨m2, rfl, g2⟩ := nat_u8 wf2
    rw [e0] at c0
    rw [e1] at c1
    rw [e2] at c2
    rw [e3] at c3
    exact ⟨((m0, m1, m2), n3), ⟨g0, g1, g2⟩, b, off, e, hb, by simpa using c0, by simpa [Nat.add_assoc] using c1, by simpa [Nat.add_assoc] using c2, by simpa [Nat.add_assoc] using c3⟩
  obtain ⟨f, hf⟩ := @choose_lt ((Nat × Nat × Nat) × Int) ⟨((0, 0, 0), 0)⟩ nb _ each
  exact ⟨A, nb, c, f, rfl, hlen, hf⟩

theorem open_held {fuel : Nat} {v : Value} {x : DataW H × List MemPlace} (h : DataW.trod enc Yba.prog w base spare held fuel 28 [v] = some x) (hfit : Fits Yba.prog 28 x.1) :
    ∃ (A : Option Addr) (nb c : Nat) (f : Nat → HD), v = .slice A nb c ∧ nb ≤ 140737488355328 ∧ ∀ j, j < nb → ((f j).t < 256 ∧ (f j).m < 256 ∧ (f j).k < 256) ∧ ∃ b off, A = some ⟨b, off, none⟩ ∧ b < w.heap.size ∧
      w.cell? ⟨b, off + j * 4, none⟩ = some (.int .u8 (f j).t) ∧ w.cell? ⟨b, off + j * 4 + 1, none⟩ = some (.int .u8 (f j).m) ∧ w.cell? ⟨b, off + j * 4 + 2, none⟩ = some (.int .u8 (f j).k) ∧ w.cell? ⟨b, off + j * 4 + 3, none⟩ = some (.bool (f j).imp) := by
  obtain ⟨A, nb, c, rfl⟩ := trod_sliceV Yba.underlying28 h
  obtain ⟨n, V, hl, hm, hnil, hw, hc⟩ := open_structs (K := 4) Yba.underlying28 Yba.underlying74 (hone_of (by kernel_rfl)) (by kernel_rfl) rfl (by omega) h hfit
  have hlen : nb ≤ 140737488355328 := by
    rw [bytes74] at hw
    unfold reachBytes at hw
    omega
  have each : ∀ j, j < nb → ∃ f : HD, (f.t < 256 ∧ f.m < 256 ∧ f.k < 256) ∧ ∃ b off, A = some ⟨b, off, none⟩ ∧ b < w.heap.size ∧
      w.cell? ⟨b, off + j * 4, none⟩ = some (.int .u8 f.t) ∧ w.cell? ⟨b, off + j * 4 + 1, none⟩ = some (.int .u8 f.m) ∧ w.cell? ⟨b, off + j * 4 + 2, none⟩ = some (.int .u8 f.k) ∧ w.cell? ⟨b, off + j * 4 + 3, none⟩ = some (.bool f.imp) := by
    intro i hi
    obtain ⟨b, off, e, hb, hx⟩ := hc (by omega)
    obtain ⟨c0, y0, t0, _⟩ := hx i hi 0 _ rfl
    obtain ⟨c1, y1, t1, _⟩ := hx i hi 1 _ rfl
    obtain ⟨c2, y2, t2, _⟩ := hx i hi 2 _ rfl
    obtain ⟨c3, y3, t3, _⟩ := hx i hi 3 _ rfl
    obtain ⟨n0, e0, _, wf0⟩ := DataW.trod_int Yba.underlying5 t0
    obtain ⟨n1, e1, _, wf1⟩ := DataW.trod_int Yba.underlying5 t1
    obtain ⟨n2, e2, _, wf2⟩ := DataW.trod_int Yba.underlying5 t2
    obtain ⟨n3, e3, _⟩ := DataW.trod_bool Yba.underlying4 t3
    simp only [List.cons.injEq, and_true] at e0 e1 e2 e3
    obtain ⟨m0, rfl, g0⟩ := nat_u8 wf0
    obtain ⟨m1, rfl, g1⟩ := nat_u8 wf1
    obtain ⟨m2, rfl, g2⟩ := nat_u8 wf2
    rw [e0] at c0
    rw [e1] at c1
    rw [e2] at c2
    rw [e3] at c3
    exact ⟨⟨m0, m1, m2, n3⟩, ⟨g0, g1, g2⟩, b, off, e, hb, by simpa using c0, by simpa [Nat.add_assoc] using c1, by simpa [Nat.add_assoc] using c2, by simpa [Nat.add_assoc] using c3⟩
  obtain ⟨f, hf⟩ := @choose_lt HD ⟨⟨0, 0, 0, false⟩⟩ nb _ each
  exact ⟨A, nb, c, f, rfl, hlen, hf⟩

theorem open_wait {fuel : Nat} {v : Value} {x : DataW H × List MemPlace} (h : DataW.trod enc Yba.prog w base spare held fuel 29 [v] = some x) (hfit : Fits Yba.prog 29 x.1) :
    ∃ (A : Option Addr) (nb c : Nat) (f : Nat → Nat), v = .slice A nb c ∧ nb ≤ 140737488355328 ∧ ∀ j, j < nb → f j < 256 ∧ ∃ b off, A = some ⟨b, off, none⟩ ∧ b < w.heap.size ∧ w.cell? ⟨b, off + j, none⟩ = some (.int .u8 (f j)) := by
  obtain ⟨A, nb, c, rfl⟩ := trod_sliceV Yba.underlying29 h
  obtain ⟨n, V, hl, hm, hnil, hw, hc⟩ := open_structs (K := 1) Yba.underlying29 Yba.underlying80 (hone_of (by kernel_rfl)) (by kernel_rfl) rfl (by omega) h hfit
  have hlen : nb ≤ 140737488355328 := by
    rw [bytes80] at hw
    unfold reachBytes at hw
    omega
  have each : ∀ j, j < nb → ∃ f : Nat, f < 256 ∧ ∃ b off, A = some ⟨b, off, none⟩ ∧ b < w.heap.size ∧ w.cell? ⟨b, off + j, none⟩ = some (.int .u8 f) := by
    intro i hi
    obtain ⟨b, off, e, hb, hx⟩ := hc (by omega)
    obtain ⟨c0, y0, t0, _⟩ := hx i hi 0 _ rfl
    obtain ⟨n0, e0, _, wf0⟩ := DataW.trod_int Yba.underlying5 t0
    simp only [List.cons.injEq, and_true] at e0
    obtain ⟨m0, rfl, g0⟩ := nat_u8 wf0
    rw [e0] at c0
    exact ⟨m0, g0, b, off, e, hb, by simpa using c0⟩
  obtain ⟨f, hf⟩ := @choose_lt Nat ⟨0⟩ nb _ each
  exact ⟨A, nb, c, f, rfl, hlen, hf⟩

/-- one transaction of the input -/
def TAt (w : World) (a : Option Addr) (i : Nat) (T : TD) : Prop :=
  T.nb ≤ 140737488355328 ∧ (∃ b off, a = some ⟨b, off, none⟩ ∧ b < w.heap.size ∧ w.cell? ⟨b, off + i * 3, none⟩ = some (.int .i64 T.s) ∧ w.cell? ⟨b, off + i * 3 + 1, none⟩ = some (.int .i64 T.f) ∧ w.cell? ⟨b, off + i * 3 + 2, none⟩ = some (.slice T.A T.nb T.c)) ∧
  ∀ j, j < T.nb → (T.pg j < 256 ∧ T.m j < 256 ∧ T.k j < 256) ∧ ∃ b off, T.A = some ⟨b, off, none⟩ ∧ b < w.heap.size ∧ w.cell? ⟨b, off + j * 4, none⟩ = some (.int .u8 (T.pg j)) ∧ w.cell? ⟨b, off + j * 4 + 1, none⟩ = some (.int .u8 (T.m j)) ∧ w.cell? ⟨b, off + j * 4 + 2, none⟩ = some (.int .u8 (T.k j)) ∧ w.cell? ⟨b, off + j * 4 + 3, none⟩ = some (.int .i64 (T.b j))
theorem open_trxs {fuel : Nat} {a : Option Addr} {len cap : Nat} {x : DataW H × List MemPlace} (h : DataW.trod enc Yba.prog w base spare held fuel 23 [.slice a len cap] = some x) (hfit : Fits Yba.prog 23 x.1) :
    ∃ f : Nat → TD, len ≤ 140737488355328 ∧ ∀ i, i < len → TAt w a i (f i) := by
  obtain ⟨n, V, hl, hm, hnil, hw, hc⟩ := open_structs (K := 3) Yba.underlying23 Yba.underlying27 (hone_of (by kernel_rfl)) (by kernel_rfl) rfl (by omega) h hfit
  have hlen : len ≤ 140737488355328 := by
    rw [bytes27] at hw
    unfold reachBytes at hw
    omega
  have each : ∀ i, i < len → ∃ T : TD, TAt w a i T := by
    intro i hi
    obtain ⟨b, off, e, hb, hx⟩ := hc (by omega)
    obtain ⟨c0, y0, t0, _⟩ := hx i hi 0 _ rfl
    obtain ⟨c1, y1, t1, _⟩ := hx i hi 1 _ rfl
    obtain ⟨c2, y2, t2, ft2⟩ := hx i hi 2 _ rfl
    obtain ⟨n0, e0, _, _⟩ := DataW.trod_int Yba.underlying3 t0
    obtain ⟨n1, e1, _, _⟩ := DataW.trod_int Yba.underlying3 t1
    obtain ⟨A, nb, c, f, e2, hnb, hf⟩ := open_bits t2 ft2
    simp only [List.cons.injEq, and_true] at e0 e1
    rw [e0] at c0
    rw [e1] at c1
    rw [e2] at c2
    exact ⟨⟨n0, n1, nb, A, c, fun j => (f j).1.1, fun j => (f j).1.2.1, fun j => (f j).1.2.2, fun j => (f j).2⟩, hnb, ⟨b, off, e, hb, by simpa using c0, by simpa [Nat.add_assoc] using c1, by simpa [Nat.add_assoc] using c2⟩, hf⟩
  obtain ⟨f, hf⟩ := @choose_lt TD ⟨⟨0, 0, 0, none, 0, fun _ => 0, fun _ => 0, fun _ => 0, fun _ => 0⟩⟩ len _ each
  exact ⟨f, hlen, hf⟩

structure RI where
  r : RD
  hA : Option Addr
  hc : Nat
  wA : Option Addr
  wc : Nat
/-- one record of the input -/
def RAt (w : World) (a : Option Addr) (i : Nat) (R : RI) : Prop :=
  R.r.nh ≤ 140737488355328 ∧ R.r.nw ≤ 140737488355328 ∧ R.r.pg < 256 ∧
  (∃ b off, a = some ⟨b, off, none⟩ ∧ b < w.heap.size ∧ w.cell? ⟨b, off + i * 5, none⟩ = some (.int .u8 R.r.pg) ∧ w.cell? ⟨b, off + i * 5 + 1, none⟩ = some (.int .i64 R.r.heap) ∧ w.cell? ⟨b, off + i * 5 + 2, none⟩ = some (.bool R.r.sup) ∧ w.cell? ⟨b, off + i * 5 + 3, none⟩ = some (.slice R.hA R.r.nh R.hc) ∧ w.cell? ⟨b, off + i * 5 + 4, none⟩ = some (.slice R.wA R.r.nw R.wc)) ∧
  (∀ j, j < R.r.nh → ((R.r.h j).t < 256 ∧ (R.r.h j).m < 256 ∧ (R.r.h j).k < 256) ∧ ∃ b off, R.hA = some ⟨b, off, none⟩ ∧ b < w.heap.size ∧
      w.cell? ⟨b, off + j * 4, none⟩ = some (.int .u8 (R.r.h j).t) ∧ w.cell? ⟨b, off + j * 4 + 1, none⟩ = some (.int .u8 (R.r.h j).m) ∧ w.cell? ⟨b, off + j * 4 + 2, none⟩ = some (.int .u8 (R.r.h j).k) ∧ w.cell? ⟨b, off + j * 4 + 3, none⟩ = some (.bool (R.r.h j).imp)) ∧
  (∀ j, j < R.r.nw → R.r.q j < 256 ∧ ∃ b off, R.wA = some ⟨b, off, none⟩ ∧ b < w.heap.size ∧ w.cell? ⟨b, off + j, none⟩ = some (.int .u8 (R.r.q j)))
theorem open_recs {fuel : Nat} {a : Option Addr} {len cap : Nat} {x : DataW H × List MemPlace} (h : DataW.trod enc Yba.prog w base spare held fuel 24 [.slice a len cap] = some x) (hfit : Fits Yba.prog 24 x.1) :
    ∃ f : Nat → RI, len ≤ 140737488355328 ∧ ∀ i, i < len → RAt w a i (f i) := by
  obtain ⟨n, V, hl, hm, hnil, hw, hc⟩ := open_structs (K := 5) Yba.underlying24 Yba.underlying31 (hone_of (by kernel_rfl)) (by kernel_rfl) rfl (by omega) h hfit
  have hlen : len ≤ 140737488355328 := by
    rw [bytes31] at hw
    unfold reachBytes at hw
    omega
  have each : ∀ i, i < len → ∃ R : RI, RAt w a i R := by
    intro i hi
    obtain ⟨b, off, e, hb, hx⟩ := hc (by omega)
    obtain ⟨c0, y0, t0, _⟩ := hx i hi 0 _ rfl
    obtain ⟨c1, y1, t1, _⟩ := hx i hi 1 _ rfl
    obtain ⟨c2, y2, t2, _⟩ := hx i hi 2 _ rfl
    obtain ⟨c3, y3, t3, ft3⟩ := hx i hi 3 _ rfl
    obtain ⟨c4, y4, t4, ft4⟩ := hx i hi 4 _ rfl
    obtain ⟨n0, e0, _, wf0⟩ := DataW.trod_int Yba.underlying5 t0
    obtain ⟨n1, e1, _, _⟩ := DataW.trod_int Yba.underlying3 t1
    obtain ⟨n2, e2, _⟩ := DataW.trod_bool Yba.underlying4 t2
    obtain ⟨A, nb, c, f, e3, hnb, hf⟩ := open_held t3 ft3
    obtain ⟨A', nb', c', f', e4, hnb', hf'⟩ := open_wait t4 ft4
    simp only [List.cons.injEq, and_true] at e0 e1 e2
    obtain ⟨m0, rfl, g0⟩ := nat_u8 wf0
    rw [e0] at c0
    rw [e1] at c1
    rw [e2] at c2
    rw [e3] at c3
    rw [e4] at c4
    exact ⟨⟨⟨m0, n1, n2, nb, f, nb', f'⟩, A, c, A', c'⟩, hnb, hnb', g0, ⟨b, off, e, hb, by simpa using c0, by simpa [Nat.add_assoc] using c1, by simpa [Nat.add_assoc] using c2, by simpa [Nat.add_assoc] using c3, by simpa [Nat.add_assoc] using c4⟩, hf, hf'⟩
  obtain ⟨f, hf⟩ := @choose_lt RI ⟨⟨⟨0, 0, false, 0, fun _ => ⟨0, 0, 0, false⟩, 0, fun _ => 0⟩, none, 0, none, 0⟩⟩ len _ each
  exact ⟨f, hlen, hf⟩
end

/-- the three arguments, as the walk wants them -/
theorem inp_of {w : World} {a0 a1 a2 : Option Addr} {l0 l1 l2 c0 c1 c2 : Nat} {f : Nat → Nat × Nat} {T : Nat → TD} {R : Nat → RI}
    (h0 : l0 ≤ 140737488355328 ∧ ∀ i, i < l0 → (f i).1 < 65536 ∧ (f i).2 < 256 ∧ ∃ b off, a0 = some ⟨b, off, none⟩ ∧ b < w.heap.size ∧ w.cell? ⟨b, off + i * 2, none⟩ = some (.int .u16 (f i).1) ∧ w.cell? ⟨b, off + i * 2 + 1, none⟩ = some (.int .u8 (f i).2))
    (h1 : l1 ≤ 140737488355328 ∧ ∀ i, i < l1 → TAt w a1 i (T i)) (h2 : l2 ≤ 140737488355328 ∧ ∀ i, i < l2 → RAt w a2 i (R i)) :
    ∃ I : Inp, I.At w ∧ I.Fine ∧ Value.slice I.p0 I.lp I.c0 = .slice a0 l0 c0 ∧ Value.slice I.p1 I.lt I.c1 = .slice a1 l1 c1 ∧ Value.slice I.p2 I.lr I.c2 = .slice a2 l2 c2 := by
  refine ⟨⟨l0, l1, l2, fun i => (f i).1, fun i => (f i).2, T, fun i => (R i).r, fun i => (R i).hA, fun i => (R i).hc, fun i => (R i).wA, fun i => (R i).wc, a0, a1, a2, c0, c1, c2⟩, ⟨?_, ?_, ?_, ?_, ?_, ?_⟩, ⟨h0.1, h1.1, h2.1, ?_, ?_, ?_, ?_, ?_, ?_, ?_, ?_, ?_⟩, rfl, rfl, rfl⟩
  · exact fun i hi => (h0.2 i hi).2.2
  · exact fun i hi => (h1.2 i hi).2.1
  · exact fun i hi j hj => ((h1.2 i hi).2.2 j hj).2
  · exact fun i hi => (h2.2 i hi).2.2.2.1
  · exact fun i hi j hj => ((h2.2 i hi).2.2.2.2.1 j hj).2
  · exact fun i hi j hj => ((h2.2 i hi).2.2.2.2.2 j hj).2
  · exact fun i hi => (h0.2 i hi).1
  · exact fun i hi => (h0.2 i hi).2.1
  · exact fun i hi => (h1.2 i hi).1
  · exact fun i hi j hj => ((h1.2 i hi).2.2 j hj).1
  · exact fun i hi => (h2.2 i hi).1
  · exact fun i hi => (h2.2 i hi).2.1
  · exact fun i hi => (h2.2 i hi).2.2.1
  · exact fun i hi j hj => ((h2.2 i hi).2.2.2.2.1 j hj).1
  · exact fun i hi j hj => ((h2.2 i hi).2.2.2.2.2 j hj).1
end Go.Proofs.Ybulkeyzg
