import Derived.Test.YbulkexuoN6
namespace Go.Proofs.Ybulkexuo
open Go.RowKit
set_option linter.unusedVariables false

def askQ (Qo : Option (Nat → Bool)) (q : Nat) : Nat → Bool := fun p => if p = q then true else (Qo.getD fun _ => false) p
section
variable {D : PD} {F : Nat → Prop} {B0 arB : Nat} {st : ST} {R : List Rs} {ri : Nat → Nat} {Qo : Option (Nat → Bool)} {w w' : World}
/-- 'ar.counted, ar.countedIn = make(..), make(..)', in whatever order -/
theorem AR.mkC (h : AR D F B0 arB st R ri none w) (hFlt : ∀ b, F b → b < w.heap.size) (hT : Touch (fun b => b = arB) w w') {f' : Nat → Value} {cB iB : Nat} (ho : w'.rowIs arB 56 19 f') (f13 : f' 13 = st.rV) (f14 : f' 14 = st.raV) (f16 : f' 16 = .int .i32 1) (f17 : f' 17 = .slice (some ⟨cB, 0, none⟩) D.N D.N) (f18 : f' 18 = .slice (some ⟨iB, 0, none⟩) D.N D.N) (hlow : ∀ o, o < 13 → w'.cell? ⟨arB, o, none⟩ = w.cell? ⟨arB, o, none⟩)
    (hc : w.heap.size ≤ cB) (hi : w.heap.size ≤ iB) (hne : cB ≠ iB) (rc : w'.rowIs cB 21 D.N (fun _ => .int .i32 0)) (rI : w'.rowIs iB 21 D.N (fun _ => .int .i32 0)) :
    AR D F B0 arB { st with cV := .slice (some ⟨cB, 0, none⟩) D.N D.N, iV := .slice (some ⟨iB, 0, none⟩) D.N D.N } R ri (some fun _ => false) w' ∧ Step arB st w { st with cV := .slice (some ⟨cB, 0, none⟩) D.N D.N, iV := .slice (some ⟨iB, 0, none⟩) D.N D.N } w' := by
  obtain ⟨f, f1, -⟩ := h.obj
  have harB := h.arow
  have hbl : ∀ b, b < w.heap.size → b ≠ arB → w'.heap[b]? = w.heap[b]? := fun b hb hn => hT.block b hb hn
  have hsz := hT.size
  refine ⟨⟨⟨f', ho, f13, f14, f16, f17, f18⟩, h.ck.move (fun b hF hlt => hbl b hlt fun e => h.notF arB (.inl rfl) (e ▸ hF)) hsz hlow, ?_, own_block h.rr fun g hg => hbl g (h.rr.lt g hg).2 fun e => own_ne h.rr f1 (by decide) (e ▸ hg), ?_, .inr ⟨fun _ => false, cB, iB, rfl, rfl, rfl, hne, rc.congr fun _ _ => by simp, rI.congr fun _ _ => by simp⟩, ?_, by have := h.base; omega⟩, hT.mono fun b _ hb => .inl hb, ?_⟩
  · intro b hb
    rcases hb with rfl | hb | hb | hb | hb
    · exact h.notF b (.inl rfl)
    · exact h.notF b (.inr (.inl hb))
    · exact h.notF b (.inr (.inr (.inl hb)))
    · cases hb
      exact fun hF => by have := hFlt cB hF; omega
    · cases hb
      exact fun hF => by have := hFlt iB hF; omega
  · rcases h.ra with h1 | ⟨b, h1, h2⟩
    · exact .inl h1
    · exact .inr ⟨b, h1, h2.of_block (hbl b h2.lt (row_ne h2 f1 (by decide)))⟩
  · intro b hb
    have hlt := h.tlt b (.inr (.inr (.inl hb)))
    exact ⟨fun e => by cases e; exact absurd (show cB < w.heap.size from hlt) (by omega), fun e => by cases e; exact absurd (show iB < w.heap.size from hlt) (by omega)⟩
  · intro b hb
    rcases hb with rfl | hb | hb | hb | hb
    · exact .inl (.inl rfl)
    · exact .inl (.inr (.inl hb))
    · exact .inl (.inr (.inr (.inl hb)))
    · cases hb; exact .inr hc
    · cases hb; exact .inr hi
/-- 'ar.counted[q], ar.countedIn[q] = n, ar.joins' -/
theorem AR.wC {Q : Nat → Bool} {q cB iB : Nat} (h : AR D F B0 arB st R ri (some Q) w) (hc : st.cV = .slice (some ⟨cB, 0, none⟩) D.N D.N) (hi : st.iV = .slice (some ⟨iB, 0, none⟩) D.N D.N) :
    AR D F B0 arB st R ri (some (askQ (some Q) q)) ((w.setCell ⟨cB, q, none⟩ (.int .i32 (D.cval q))).setCell ⟨iB, q, none⟩ (.int .i32 1)) ∧ Step arB st w st ((w.setCell ⟨cB, q, none⟩ (.int .i32 (D.cval q))).setCell ⟨iB, q, none⟩ (.int .i32 1)) := by
  obtain ⟨f, f1, f2⟩ := h.obj
  obtain ⟨hne, r1, r2⟩ : cB ≠ iB ∧ w.rowIs cB 21 D.N (fun q => .int .i32 (if Q q = true then D.cval q else 0)) ∧ w.rowIs iB 21 D.N (fun q => .int .i32 (if Q q = true then 1 else 0)) := by
    rcases h.cc with ⟨h1, _⟩ | ⟨Q', b, c, h1, h2, h3, h4, h5, h6⟩
    · cases h1
    · rw [hc] at h2
      rw [hi] at h3
      cases h1; cases h2; cases h3
      exact ⟨h4, h5, h6⟩
  have hT : Touch (fun b => b = cB ∨ b = iB) w ((w.setCell ⟨cB, q, none⟩ (.int .i32 (D.cval q))).setCell ⟨iB, q, none⟩ (.int .i32 1)) := ((Touch.refl _ w).setCell (.inl (.inl rfl)) _).setCell (.inl (.inr rfl)) _
  have hcT : TSet arB st cB := .inr (.inr (.inr (.inl (by rw [hc]; rfl))))
  have hiT : TSet arB st iB := .inr (.inr (.inr (.inr (by rw [hi]; rfl))))
  have hbl : ∀ b, b < w.heap.size → b ≠ cB → b ≠ iB → ((w.setCell ⟨cB, q, none⟩ (.int .i32 (D.cval q))).setCell ⟨iB, q, none⟩ (.int .i32 1)).heap[b]? = w.heap[b]? := fun b hb h1 h2 => hT.block b hb (fun e => e.elim h1 h2)
  have ha1 : arB ≠ cB := row_ne f1 r1 (by decide)
  have ha2 : arB ≠ iB := row_ne f1 r2 (by decide)
  refine ⟨⟨⟨f, f1.of_block (hbl _ f1.lt ha1 ha2), f2⟩, h.ck.move (fun b hF hlt => hbl b hlt (fun e => h.notF cB hcT (e ▸ hF)) (fun e => h.notF iB hiT (e ▸ hF))) hT.size (fun o _ => World.cell?_of_block (a := ⟨arB, o, none⟩) (hbl _ f1.lt ha1 ha2)), h.notF, own_block h.rr fun g hg => hbl g (h.rr.lt g hg).2 (fun e => own_ne h.rr r1 (by decide) (e ▸ hg)) (fun e => own_ne h.rr r2 (by decide) (e ▸ hg)), ?_, .inr ⟨_, cB, iB, rfl, hc, hi, hne, ?_, ?_⟩, h.d1, Nat.le_trans h.base hT.size⟩, hT.mono fun b _ hb => hb.elim (fun e => e ▸ hcT) (fun e => e ▸ hiT), fun b hb => .inl hb⟩
  · rcases h.ra with h1 | ⟨b, h1, h2⟩
    · exact .inl h1
    · have hd := h.d1 b (by rw [h1]; rfl)
      exact .inr ⟨b, h1, h2.of_block (hbl b h2.lt (fun e => hd.1 (by rw [hc, e]; rfl)) (fun e => hd.2 (by rw [hi, e]; rfl)))⟩
  · refine ((r1.set q (.int .i32 (D.cval q))).setOther hne (.int .i32 1)).congr fun p _ => ?_
    unfold askQ
    by_cases e : p = q
    · subst e; simp
    · simp [e]
  · refine ((r2.setOther (Ne.symm hne) (.int .i32 (D.cval q))).set q (.int .i32 1)).congr fun p _ => ?_
    unfold askQ
    by_cases e : p = q
    · subst e; simp
    · simp [e]
end
end Go.Proofs.Ybulkexuo
