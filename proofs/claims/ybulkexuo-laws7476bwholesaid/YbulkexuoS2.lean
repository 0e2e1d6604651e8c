import Derived.Test.YbulkexuoS
namespace Go.Proofs.Ybulkexuo
open Go.RowKit

def updN {α : Type} (f : Nat → α) (i : Nat) (v : α) : Nat → α := fun j => if j = i then v else f j
section
variable {D : PD} {F : Nat → Prop} {B0 arB : Nat} {st : ST} {R : List Rs} {ri : Nat → Nat} {Qo : Option (Nat → Bool)} {w w' : World}
theorem ar_low {f : Nat → Value} (h : w.rowIs arB 56 19 f) {k : Nat} (hk : 13 ≤ k) (v : Value) : ∀ o, o < 13 → (w.setCell ⟨arB, k, none⟩ v).cell? ⟨arB, o, none⟩ = w.cell? ⟨arB, o, none⟩ := fun o ho => by
  have h1 := (h.set k v).cell (i := o) (by omega)
  rw [h1, h.cell (i := o) (by omega), if_neg (by omega)]
/-- the rises' row turns in place -/
theorem AR.wR (h : AR D F B0 arB st R ri Qo w) (hT : Touch (fun b => st.rV.ownBlock = some b) w w') {R' : List Rs} (hrr : w'.ownsRow B0 46 4 st.rV R'.length (riseL R')) : AR D F B0 arB st R' ri Qo w' := by
  obtain ⟨f, f1, f2⟩ := h.obj
  have hrow : ∀ b t n g, t ≠ 46 → w.rowIs b t n g → w'.rowIs b t n g := fun b t n g ht hr => hr.of_block (hT.block b hr.lt (own_ne h.rr hr (fun e => ht e.symm)))
  have hA := hrow _ _ _ _ (by decide) f1
  refine ⟨⟨f, hA, f2⟩, h.ck.move (fun b hF hlt => hT.block b hlt fun hb => h.notF b (.inr (.inl hb)) hF) hT.size (fun o _ => World.cell?_of_block (a := ⟨arB, o, none⟩) (hT.block arB f1.lt (own_ne h.rr f1 (by decide)))), h.notF, hrr, ?_, ?_, h.d1, Nat.le_trans h.base hT.size⟩
  · rcases h.ra with h1 | ⟨b, h1, h2⟩
    · exact .inl h1
    · exact .inr ⟨b, h1, hrow b _ _ _ (by decide) h2⟩
  · rcases h.cc with h1 | ⟨Q, b, c, h1, h2, h3, h4, h5, h6⟩
    · exact .inl h1
    · exact .inr ⟨Q, b, c, h1, h2, h3, h4, hrow b _ _ _ (by decide) h5, hrow c _ _ _ (by decide) h6⟩
/-- a store to 'riseAt[p]' -/
theorem AR.wRa (h : AR D F B0 arB st R ri Qo w) {b : Nat} (hb : st.raV = .slice (some ⟨b, 0, none⟩) D.N D.N) (p v : Nat) : AR D F B0 arB st R (updN ri p v) Qo (w.setCell ⟨b, p, none⟩ (.int .i32 v)) := by
  obtain ⟨f, f1, f2⟩ := h.obj
  have hT : Touch (fun c => c = b) w (w.setCell ⟨b, p, none⟩ (.int .i32 v)) := Touch.setCell (S := fun c => c = b) (Touch.refl _ _) (.inl rfl) _
  have hT2 : TSet arB st b := .inr (.inr (.inl (by rw [hb]; rfl)))
  obtain ⟨b', h1, h2⟩ : ∃ b', st.raV = .slice (some ⟨b', 0, none⟩) D.N D.N ∧ w.rowIs b' 21 D.N (fun p => .int .i32 (ri p)) := by
    rcases h.ra with h1 | h1
    · rw [hb] at h1; cases h1.1
    · exact h1
  rw [hb] at h1
  cases h1
  have hne : arB ≠ b := row_ne f1 h2 (by decide)
  have hrn : st.rV.ownBlock ≠ some b := own_ne h.rr h2 (by decide)
  have hbl : ∀ c, c < w.heap.size → c ≠ b → (w.setCell ⟨b, p, none⟩ (.int .i32 v)).heap[c]? = w.heap[c]? := fun c hc hn => hT.block c hc hn
  refine ⟨⟨f, f1.of_block (hbl _ f1.lt hne), f2⟩, h.ck.move (fun c hF hlt => hbl c hlt fun e => h.notF b hT2 (e ▸ hF)) hT.size (fun o _ => World.cell?_of_block (a := ⟨arB, o, none⟩) (hbl _ f1.lt hne)), h.notF, own_block h.rr fun g hg => hbl g (h.rr.lt g hg).2 fun e => hrn (e ▸ hg), .inr ⟨b, hb, (h2.set p _).congr fun j _ => ?_⟩, ?_, h.d1, Nat.le_trans h.base hT.size⟩
  · unfold updN
    by_cases e : j = p
    · rw [if_pos e, if_pos e]
    · rw [if_neg e, if_neg e]
  · have hd := h.d1 b (by rw [hb]; rfl)
    rcases h.cc with h1 | ⟨Q, c, d, h1, h2', h3, h4, h5, h6⟩
    · exact .inl h1
    · exact .inr ⟨Q, c, d, h1, h2', h3, h4, h5.of_block (hbl c h5.lt fun e => hd.1 (by rw [h2', e]; rfl)), h6.of_block (hbl d h6.lt fun e => hd.2 (by rw [h3, e]; rfl))⟩
/-- 'ar.riseAt = make(..)' -/
theorem AR.setRa (h : AR D F B0 arB st R ri Qo w) (h0 : st.raV = .slice none 0 0) (hFlt : ∀ b, F b → b < w.heap.size) :
    AR D F B0 arB { st with raV := .slice (some ⟨w.heap.size, 0, none⟩) D.N D.N } R ri Qo ((w.alloc (.cells (madeCells #[.int .i32 0] D.N) 21)).setCell ⟨arB, 14, none⟩ (.slice (some ⟨w.heap.size, 0, none⟩) D.N D.N)) ∧
      Step arB st w { st with raV := .slice (some ⟨w.heap.size, 0, none⟩) D.N D.N } ((w.alloc (.cells (madeCells #[.int .i32 0] D.N) 21)).setCell ⟨arB, 14, none⟩ (.slice (some ⟨w.heap.size, 0, none⟩) D.N D.N)) := by
  have hr := World.rowIs_made w (.int .i32 0) D.N 21
  have h1 := h.touch0 ((Touch.refl _ w).alloc (.cells (madeCells #[.int .i32 0] D.N) 21))
  have hs1 := alloc_size w (.cells (madeCells #[.int .i32 0] D.N) 21)
  have hT0 : Touch (TSet arB st) w (w.alloc (.cells (madeCells #[.int .i32 0] D.N) 21)) := (Touch.refl _ w).alloc _
  generalize w.alloc (.cells (madeCells #[.int .i32 0] D.N) 21) = w1 at *
  obtain ⟨f, f1, f13, f14, f16, f17, f18⟩ := h1.obj
  have harB : arB < w.heap.size := h.arow
  have hbl : ∀ c, c ≠ arB → (w1.setCell ⟨arB, 14, none⟩ (.slice (some ⟨w.heap.size, 0, none⟩) D.N D.N)).heap[c]? = w1.heap[c]? := fun c hn => Go.Deep.blk_setCell_other _ _ _ _ hn
  have hss := setCell_size w1 ⟨arB, 14, none⟩ (.slice (some ⟨w.heap.size, 0, none⟩) D.N D.N)
  have hz : ∀ p, p < D.N → ri p = 0 := by
    rcases h.ra with h2 | ⟨b, h2, _⟩
    · exact h2.2
    · rw [h0] at h2; cases h2
  have hrb : ∀ g, st.rV.ownBlock = some g → g ≠ arB := fun g hg e => own_ne h1.rr f1 (by decide) (e ▸ hg)
  have hcb : ∀ b t n g, t ≠ 56 → w1.rowIs b t n g → b ≠ arB := fun b t n g ht hr' => row_ne hr' f1 ht
  have hlt : ∀ b, TSet arB st b → b < w.heap.size := fun b hb => by
    rcases hb with rfl | hb | hb | hb | hb
    · exact harB
    · exact (h.rr.lt b hb).2
    · rw [h0] at hb; cases hb
    · rcases h.cc with ⟨_, h2, _⟩ | ⟨Q, c, d, _, h2, _, _, h5, _⟩
      · rw [h2] at hb; cases hb
      · rw [h2] at hb; cases hb; exact h5.lt
    · rcases h.cc with ⟨_, _, h2⟩ | ⟨Q, c, d, _, _, h2, _, _, h5⟩
      · rw [h2] at hb; cases hb
      · rw [h2] at hb; cases hb; exact h5.lt
  refine ⟨⟨⟨_, f1.set 14 _, by simpa using f13, by simp, by simpa using f16, by simpa using f17, by simpa using f18⟩, h1.ck.move (fun b hF _ => hbl b fun e => h.notF arB (.inl rfl) (e ▸ hF)) (by omega) (ar_low f1 (by omega) _), ?_, own_block h1.rr fun g hg => hbl g (hrb g hg), .inr ⟨w.heap.size, rfl, ?_⟩, ?_, ?_, by have := h.base; omega⟩, ?_, ?_⟩
  · intro b hb
    rcases hb with rfl | hb | hb | hb | hb
    · exact h.notF b (.inl rfl)
    · exact h.notF b (.inr (.inl hb))
    · cases hb
      exact fun hF => Nat.lt_irrefl _ (hFlt w.heap.size hF)
    · exact h.notF b (.inr (.inr (.inr (.inl hb))))
    · exact h.notF b (.inr (.inr (.inr (.inr hb))))
  · exact (hr.of_block (hbl _ (by omega))).congr fun p hp => by rw [hz p hp]; rfl
  · rcases h1.cc with h2 | ⟨Q, c, d, h2, h3, h4, h5, h6, h7⟩
    · exact .inl h2
    · exact .inr ⟨Q, c, d, h2, h3, h4, h5, h6.of_block (hbl c (hcb _ _ _ _ (by decide) h6)), h7.of_block (hbl d (hcb _ _ _ _ (by decide) h7))⟩
  · intro b hb
    cases hb
    exact ⟨fun e => Nat.lt_irrefl _ (hlt w.heap.size (.inr (.inr (.inr (.inl e))))), fun e => Nat.lt_irrefl _ (hlt w.heap.size (.inr (.inr (.inr (.inr e)))))⟩
  · exact hT0.trans (Touch.setCell (Touch.refl _ _) (.inl (.inl rfl)) _)
  · intro b hb
    rcases hb with rfl | hb | hb | hb | hb
    · exact .inl (.inl rfl)
    · exact .inl (.inr (.inl hb))
    · cases hb; exact .inr (Nat.le_refl _)
    · exact .inl (.inr (.inr (.inr (.inl hb))))
    · exact .inl (.inr (.inr (.inr (.inr hb))))
/-- 'ar.rises = append(ar.rises, r)' -/
theorem AR.app (h : AR D F B0 arB st R ri Qo w) (hFlt : ∀ b, F b → b < w.heap.size) {w1 w2 : World} (h1 : Touch (fun _ => False) w w1) (hg : w1.grownBy w2 st.rV.ownBlock) {g cap : Nat} {r : Rs} (hown : w2.ownsRow B0 46 4 (.slice (some ⟨g, 0, none⟩) (R.length + 1) cap) (R.length + 1) (riseL R ++ riseC r)) (hat : st.rV.ownBlock = some g ∨ g = w1.heap.size) :
    AR D F B0 arB { st with rV := .slice (some ⟨g, 0, none⟩) (R.length + 1) cap } (R ++ [r]) ri Qo (w2.setCell ⟨arB, 13, none⟩ (.slice (some ⟨g, 0, none⟩) (R.length + 1) cap)) ∧
      Step arB st w { st with rV := .slice (some ⟨g, 0, none⟩) (R.length + 1) cap } (w2.setCell ⟨arB, 13, none⟩ (.slice (some ⟨g, 0, none⟩) (R.length + 1) cap)) := by
  have hT2 : Touch (fun b => st.rV.ownBlock = some b) w w2 := (h1.mono (S' := fun b => st.rV.ownBlock = some b) fun _ _ h => h.elim).grown hg fun k hk => .inl hk
  obtain ⟨f, f1, f13, f14, f16, f17, f18⟩ := h.obj
  have harB : arB < w.heap.size := h.arow
  have hrow : ∀ b t n k, t ≠ 46 → w.rowIs b t n k → w2.rowIs b t n k := fun b t n k ht hr => hr.of_block (hT2.block b hr.lt (own_ne h.rr hr (fun e => ht e.symm)))
  have F1 := hrow _ _ _ _ (by decide) f1
  have hga : g ≠ arB := fun e => by
    rcases hat with h2 | h2
    · exact own_ne h.rr f1 (by decide) (e ▸ h2)
    · have := h1.size; omega
  have hbl : ∀ c, c ≠ arB → (w2.setCell ⟨arB, 13, none⟩ (.slice (some ⟨g, 0, none⟩) (R.length + 1) cap)).heap[c]? = w2.heap[c]? := fun c hn => Go.Deep.blk_setCell_other _ _ _ _ hn
  have hss := setCell_size w2 ⟨arB, 13, none⟩ (.slice (some ⟨g, 0, none⟩) (R.length + 1) cap)
  have hsz := hT2.size
  have hcb : ∀ b t n k, t ≠ 56 → w2.rowIs b t n k → b ≠ arB := fun b t n k ht hr' => row_ne hr' F1 ht
  have hCK2 : CKF D F w2 arB := h.ck.move (fun b hF hlt => hT2.block b hlt fun hb => h.notF b (.inr (.inl hb)) hF) hsz (fun o _ => World.cell?_of_block (a := ⟨arB, o, none⟩) (hT2.block arB f1.lt (own_ne h.rr f1 (by decide))))
  refine ⟨⟨⟨_, F1.set 13 _, by simp, by simpa using f14, by simpa using f16, by simpa using f17, by simpa using f18⟩, hCK2.move (fun b hF _ => hbl b fun e => h.notF arB (.inl rfl) (e ▸ hF)) (by omega) (ar_low F1 (by omega) _), ?_, ?_, ?_, ?_, h.d1, by have := h.base; omega⟩, ?_, ?_⟩
  · intro b hb
    rcases hb with rfl | hb | hb | hb | hb
    · exact h.notF b (.inl rfl)
    · cases hb
      rcases hat with h2 | h2
      · exact h.notF g (.inr (.inl h2))
      · exact fun hF => by have := hFlt g hF; have := h1.size; omega
    · exact h.notF b (.inr (.inr (.inl hb)))
    · exact h.notF b (.inr (.inr (.inr (.inl hb))))
    · exact h.notF b (.inr (.inr (.inr (.inr hb))))
  · rw [List.length_append, List.length_singleton, riseL_app]
    exact own_block hown fun k hk => by cases hk; exact hbl g hga
  · rcases h.ra with h2 | ⟨b, h2, h3⟩
    · exact .inl h2
    · have := hrow b _ _ _ (by decide) h3
      exact .inr ⟨b, h2, this.of_block (hbl b (hcb _ _ _ _ (by decide) this))⟩
  · rcases h.cc with h2 | ⟨Q, c, d, h2, h3, h4, h5, h6, h7⟩
    · exact .inl h2
    · have k6 := hrow c _ _ _ (by decide) h6
      have k7 := hrow d _ _ _ (by decide) h7
      exact .inr ⟨Q, c, d, h2, h3, h4, h5, k6.of_block (hbl c (hcb _ _ _ _ (by decide) k6)), k7.of_block (hbl d (hcb _ _ _ _ (by decide) k7))⟩
  · exact (hT2.mono fun b _ hb => .inr (.inl hb)).trans (Touch.setCell (Touch.refl _ _) (.inl (.inl rfl)) _)
  · intro b hb
    rcases hb with rfl | hb | hb | hb | hb
    · exact .inl (.inl rfl)
    · cases hb
      rcases hat with h2 | h2
      · exact .inl (.inr (.inl h2))
      · right; rw [h2]; exact h1.size
    · exact .inl (.inr (.inr (.inl hb)))
    · exact .inl (.inr (.inr (.inr (.inl hb))))
    · exact .inl (.inr (.inr (.inr (.inr hb))))
/-- the cells of the arena that are read -/
theorem AR.cells (h : AR D F B0 arB st R ri Qo w) : w.cell? ⟨arB, 13, none⟩ = some st.rV ∧ w.cell? ⟨arB, 14, none⟩ = some st.raV ∧ w.cell? ⟨arB, 16, none⟩ = some (.int .i32 1) ∧ w.cell? ⟨arB, 17, none⟩ = some st.cV ∧ w.cell? ⟨arB, 18, none⟩ = some st.iV ∧ (∀ k, w.frozen? ⟨arB, k, none⟩ = false) := by
  obtain ⟨f, f1, f13, f14, f16, f17, f18⟩ := h.obj
  exact ⟨by rw [← f13]; exact f1.cell (by omega), by rw [← f14]; exact f1.cell (by omega), by rw [← f16]; exact f1.cell (by omega), by rw [← f17]; exact f1.cell (by omega), by rw [← f18]; exact f1.cell (by omega), fun k => f1.frozen k⟩
end
end Go.Proofs.Ybulkexuo
