import Derived.Test.YbulkexuoP5
namespace Go.Proofs.Ybulkexuo
open Go.RowKit
set_option linter.unusedSimpArgs false
set_option linter.unusedVariables false

theorem B14.below {I : IN} {w0 : World} {HB : Nat} {eV lV rV raV : Value} {w w' : World} (h : B14 I w0 HB eV lV rV raV w) (hb : Below w.heap.size w w') : B14 I w0 HB eV lV rV raV w' := by
  refine ⟨bel_trans h.bel hb, h.hHB, ?_, own_block h.ent fun b k => hb.block b (h.ent.lt b k).2, h.ene, own_block h.lev fun b k => hb.block b (h.lev.lt b k).2, h.lne, own_block h.rs fun b k => hb.block b (h.rs.lt b k).2, h.rne, ?_⟩
  · obtain ⟨f, h1, h2⟩ := h.hand
    exact ⟨f, h1.of_block (hb.block HB h1.lt), h2⟩
  · rcases h.ra with h1 | ⟨b, h1, h2, h3, h4⟩
    · exact .inl h1
    · exact .inr ⟨b, h1, h2, h3, h4.of_block (hb.block b h4.lt)⟩
/-- the arena's cells -/
def CA (eV lV hV rV raV : Value) : Array Value := #[.slice none 0 0, .slice none 0 0, .slice none 0 0, eV, lV, .slice none 0 0, hV, .slice none 0 0, .slice none 0 0, .slice none 0 0, .int .i64 0, .bool false, .slice none 0 0, rV, raV, .slice none 0 0, .int .i32 1, .slice none 0 0, .slice none 0 0]
theorem own_ty {w : World} {base : Nat} {e : TypeId} {s : Nat} {v : Value} {n : Nat} {xs : List Value} (h : w.ownsRow base e s v n xs) {b : Nat} (hb : v.ownBlock = some b) : ∃ c, w.heap[b]? = some (.cells c e (0, 0)) := by
  rcases h.2 with ⟨rfl, _⟩ | ⟨g, cap, cur, rfl, h2, h3, h4⟩
  · cases hb
  · cases hb
    exact ⟨cur, h3⟩
theorem tset_ty {w : World} {arB : Nat} {f : Nat → Value} (ho : w.rowIs arB 56 19 f) {rV raV : Value} {B0 n : Nat} {xs : List Value} (hr : w.ownsRow B0 46 4 rV n xs) {N : Nat} {f' : Nat → Value} (ha : raV = .slice none 0 0 ∨ ∃ b, raV = .slice (some ⟨b, 0, none⟩) N N ∧ w.rowIs b 21 N f') {b : Nat} (hT : TSet arB ⟨rV, raV, .slice none 0 0, .slice none 0 0⟩ b) : ∃ c t, w.heap[b]? = some (.cells c t (0, 0)) ∧ (t = 56 ∨ t = 46 ∨ t = 21) := by
  rcases hT with rfl | h | h | h | h
  · obtain ⟨c, h1, _⟩ := ho
    exact ⟨c, 56, h1, .inl rfl⟩
  · obtain ⟨c, h1⟩ := own_ty hr h
    exact ⟨c, 46, h1, .inr (.inl rfl)⟩
  · rcases ha with e | ⟨b', e, h2⟩
    · have h' : raV.ownBlock = some b := h
      rw [e] at h'
      cases h'
    · have h' : raV.ownBlock = some b := h
      rw [e] at h'
      cases h'
      obtain ⟨c, h1, _⟩ := h2
      exact ⟨c, 21, h1, .inr (.inr rfl)⟩
  · cases h
  · cases h
theorem arb_new (I : IN) (w0 w : World) (HB : Nat) (eV lV rV raV : Value) (hB : B14 I w0 HB eV lV rV raV w) (arB gB : Nat) (har : w.rowIs arB 56 19 (fun j => ((CA eV lV (.slice (some ⟨HB, 0, none⟩) I.N I.N) rV raV)[j]?).getD undef)) {f : Nat → Value} (hg : w.rowIs gB 62 11 f) :
    ARB I.D (fun b => b < w.heap.size ∧ ¬ TSet arB ⟨rV, raV, .slice none 0 0, .slice none 0 0⟩ b) w0.heap.size arB ⟨rV, raV, .slice none 0 0, .slice none 0 0⟩ I.R0 none w ∧ (gB < w.heap.size ∧ ¬ TSet arB ⟨rV, raV, .slice none 0 0, .slice none 0 0⟩ gB) := by
  have hra : raV = .slice none 0 0 ∨ ∃ b, raV = .slice (some ⟨b, 0, none⟩) I.N I.N ∧ w.rowIs b 21 I.N (fun q => .int .i32 (ix I.R0 q)) := by
    rcases hB.ra with h | ⟨b, h1, h2, h3, h4⟩
    · exact .inl h.1
    · exact .inr ⟨b, h1, h4⟩
  have hty : ∀ b c t, w.heap[b]? = some (.cells c t (0, 0)) → t ≠ 56 → t ≠ 46 → t ≠ 21 → ¬ TSet arB ⟨rV, raV, .slice none 0 0, .slice none 0 0⟩ b := fun b c t h1 h2 h3 h4 hT => by
    obtain ⟨c', t', k1, k2⟩ := tset_ty har hB.rs hra hT
    rw [h1] at k1
    cases k1
    rcases k2 with k2 | k2 | k2
    · exact h2 k2
    · exact h3 k2
    · exact h4 k2
  have hcell : ∀ j v, (CA eV lV (.slice (some ⟨HB, 0, none⟩) I.N I.N) rV raV)[j]? = some v → j < 19 → w.cell? ⟨arB, j, none⟩ = some v := fun j v hv hj => by
    have := har.cell hj
    rw [hv] at this
    exact this
  refine ⟨⟨⟨⟨_, har, rfl, rfl, rfl, rfl, rfl⟩, ?_, fun b hT hFb => hFb.2 hT, hB.rs, ?_, .inl ⟨rfl, rfl, rfl⟩, fun b _ => ⟨by simp [Value.ownBlock], by simp [Value.ownBlock]⟩, hB.bel.size⟩, ?_, rsK_wf I I.lr, fun b h => h.1⟩, ?_⟩
  · refine ⟨har.lt, hcell 0 _ rfl (by omega), hcell 1 _ rfl (by omega), ?_, ?_, ?_, hcell 11 _ rfl (by omega)⟩
    · rcases own_slice hB.ent with ⟨h1, h2⟩ | ⟨g, cap, h1, h2, h3⟩
      · have h2' : I.D.eo I.D.ll = 0 := h2
        refine ⟨none, 0, ?_, by omega, by omega, .inl ⟨rfl, h2', rfl⟩, fun k e he => ?_⟩
        · have h3 := hcell 3 _ rfl (by omega)
          rw [h3, h1, h2']; rfl
        · have := (List.getElem?_eq_some_iff.1 he).1
          have h4 : (I.D.ent I.D.ll).length = 0 := h2
          omega
      · refine ⟨_, cap, by have h3 := hcell 3 _ rfl (by omega); rw [h3, h1]; rfl, h2, by unfold maxLen at h3; omega, .inr ⟨g, rfl⟩, fun k e he => ?_⟩
        obtain ⟨k0, k1⟩ := entL_get _ k e he
        have ho := hB.ent
        rw [h1] at ho
        obtain ⟨c, hc⟩ := own_ty ho (b := g) rfl
        exact ⟨g, rfl, ⟨(ho.lt g rfl).2, hty g c 38 hc (by decide) (by decide) (by decide)⟩, (ho.lt g rfl).2, (own_cell ho k0).1, (own_cell ho k1).1⟩
    · rcases own_slice hB.lev with ⟨h1, h2⟩ | ⟨g, cap, h1, h2, h3⟩
      · have h2' : I.D.ll = 0 := h2
        refine ⟨none, 0, ?_, by omega, by omega, .inl ⟨rfl, h2', rfl⟩, fun l hl => by omega⟩
        have h3 := hcell 4 _ rfl (by omega)
        rw [h3, h1, h2']; rfl
      · refine ⟨_, cap, by have h3 := hcell 4 _ rfl (by omega); rw [h3, h1]; rfl, h2, by unfold maxLen at h3; omega, .inr ⟨g, rfl⟩, fun l hl => ?_⟩
        obtain ⟨k0, k1⟩ := levL_get I.D I.ll l hl
        have ho := hB.lev
        rw [h1] at ho
        obtain ⟨c, hc⟩ := own_ty ho (b := g) rfl
        exact ⟨g, rfl, ⟨(ho.lt g rfl).2, hty g c 40 hc (by decide) (by decide) (by decide)⟩, (ho.lt g rfl).2, (own_cell ho k0).1, (own_cell ho k1).1⟩
    · obtain ⟨f, h1, h2⟩ := id hB.hand
      obtain ⟨c, hc, _⟩ := id h1
      exact ⟨HB, I.N, hcell 6 _ rfl (by omega), ⟨h1.lt, hty HB c 27 hc (by decide) (by decide) (by decide)⟩, h1.lt, HRow.at hB.hand⟩
  · rcases hB.ra with ⟨h1, h2⟩ | ⟨b, h1, h2, h3, h4⟩
    · exact .inl ⟨h1, fun p _ => by rw [h2]; rfl⟩
    · exact .inr ⟨b, h1, h4⟩
  · rcases hB.ra with ⟨h1, h2⟩ | ⟨b, h1, h2, h3, h4⟩
    · exact ⟨fun _ => h2, fun _ => h1⟩
    · exact ⟨fun h => absurd (h1.symm.trans h) (by simp), fun h => absurd h h2⟩
  · obtain ⟨c, hc, _⟩ := id hg
    exact ⟨hg.lt, hty gB c 62 hc (by decide) (by decide) (by decide)⟩
end Go.Proofs.Ybulkexuo
