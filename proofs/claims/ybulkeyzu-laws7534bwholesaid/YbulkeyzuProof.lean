/-
  THE PROOF OF 'Rows.LawS7534BWholeSaid'. The frame follows the guide's own shell (proof-skeleton.mjs) for a law over a slice, turned for a slice of structs that hold slices.
-/
import Derived.Test.YbulkeyzuRows
import Derived.Test.YbulkeyzuW4
import Derived.Test.YbulkeyzuOpen
import Derived.WalkKit
import Derived.ProofKit
import Derived.OpenShut
import Derived.ChangeOld
import Derived.Below
namespace Go.Proofs.Ybulkeyzu.lawB
open Go.ChangeShapes Go.WideShapes Go.ChangeAt Go.RowKit Go.Deep
set_option linter.unusedVariables false

theorem own : ownKnob Yba.prog.godebug = none := by kernel_rfl
theorem laidOut : laidOutB Yba.prog = true := by kernel_rfl

/-- What is known of the nodes that came in. -/
def IsIn (w : World) (a : Option Addr) (len : Nat) (o : Nat → Nd) : Prop := len ≤ maxLen ∧ (0 < len → ∃ b off, a = some ⟨b, off, none⟩ ∧ IsNds w b off len o)

set_option maxRecDepth 100000 in
theorem law_zero (a : Option Addr) (cap : Nat) (c t : Int) (w : World) :
    Calls Yba.prog 3 #[.slice a 0 cap, .int .u8 c, .int .u8 t] w fun e w' => e = .returned (.bool true) ∧ Below w.heap.size w w' := by
  go_enter Yba.func3, Yba.ntmps3
  go_wp2_with fail
  go_ret
  exact ⟨rfl, Below.refl _ _⟩

theorem walk (a : Option Addr) (len cap : Nat) (o : Nat → Nd) (c t : Int) (w : World) (h : IsIn w a len o) (wc : (Lit.int .u8 c).wf = true) (wt : (Lit.int .u8 t).wf = true) :
    Calls Yba.prog 3 #[.slice a len cap, .int .u8 c, .int .u8 t] w fun e w' => e = .returned (.bool true) ∧ Below w.heap.size w w' := by
  have hc := bounds_u8 wc
  have ht := bounds_u8 wt
  by_cases h0 : 0 < len
  · obtain ⟨b, off, rfl, hI⟩ := h.2 h0
    obtain ⟨c', rfl⟩ : ∃ c' : Nat, c = c' := ⟨c.toNat, by omega⟩
    obtain ⟨t', rfl⟩ : ∃ t' : Nat, t = t' := ⟨t.toNat, by omega⟩
    exact law_any w b off len cap o c' t' h0 h.1 hI (by omega) (by omega)
  · obtain rfl : len = 0 := by omega
    exact law_zero a cap c t w

set_option maxRecDepth 100000 in
theorem lifted (os : Os) (started : os.Started) (H : Type) (enc : TypeId × Value → H) :
    ReturnsInHanded {} Yba.checked os 3 .any (Rows.lawS7534BWholeSpec.pre6 enc Yba.prog Yba.f3 Rows.lawS7534BWholeRow.domain false) (Rows.lawS7534BWholeSpec.post enc Yba.prog Yba.f3 false true false false) := by
  refine returnsInHanded_of_change (C := Yba.checked) own started (by kernel_rfl) Yba.func3
    (ChangeSpec.witness6 (enc := enc) (C := Yba.checked) false ⟨#[], #[.slice none 0 0, .int .u8 0, .int .u8 0], []⟩ 8 (by kernel_rfl) (by kernel_rfl) (by kernel_rfl) (by kernel_rfl)) ?_
  intro W base args ds gs before hval0 hW hcnd _
  have hval : ∀ (j : Nat) t v, Yba.f3.params[j]? = some t → args[j]? = some v → Value.okWide Yba.prog W .any base t v := hval0
  have hW' := hW
  obtain ⟨p, q, hA0, hV, rfl, hfz, hnd⟩ := hW
  have hA : DataW.TrodAll enc Yba.prog W 0 (fun _ => true) true Yba.f3.params.toList args.toList ds p := hA0
  rw [Yba.params3] at hA hval
  obtain ⟨v0, vs0, d0, ds0, p0, q0, hargs, rfl, rfl, h0, r0⟩ := trodAll_cons hA
  obtain ⟨v1, vs1, d1, ds1, p1, q1, rfl, rfl, rfl, h1, r1⟩ := trodAll_cons r0
  obtain ⟨v2, vs2, d2, ds2, p2, q2, rfl, rfl, rfl, h2, r2⟩ := trodAll_cons r1
  obtain ⟨rfl, rfl, rfl⟩ := trodAll_nil r2
  obtain rfl : args = #[v0, v1, v2] := by cases args; simp_all
  obtain ⟨rfl, rfl⟩ := trodVars_none hV
  obtain ⟨a0, len0, cap0, rfl⟩ := okWide_slice Yba.underlying22 (hval 0 22 v0 rfl rfl)
  have k0 := h0
  have lt0 : ∀ x ∈ p0, x.block < W.heap.size := by obtain ⟨m, hm⟩ := k0; exact DataW.trod_lt m _ _ _ hm
  obtain ⟨o, hI⟩ : ∃ o, IsIn W a0 len0 o := by
    obtain ⟨fuel, hf⟩ := h0
    obtain ⟨n, V, hl, hm, hnil, hc⟩ := open_structs (K := 5) Yba.underlying22 Yba.underlying29 (hone_of (by kernel_rfl)) (by kernel_rfl) rfl (by omega) hf
    by_cases hpos : 0 < len0
    · obtain ⟨b, off, e, hb, hx⟩ := hc hpos
      have each : ∀ i, i < len0 → ∃ d : Nd, W.cell? ⟨b, off + i * 5, none⟩ = some (.bool d.arr) ∧ W.cell? ⟨b, off + i * 5 + 1, none⟩ = some (.bool d.isf) ∧ W.cell? ⟨b, off + i * 5 + 2, none⟩ = some (.int .u8 d.sp) ∧
          W.cell? ⟨b, off + i * 5 + 3, none⟩ = some (.int .u8 d.cp) ∧ W.cell? ⟨b, off + i * 5 + 4, none⟩ = some (.slice d.A d.l d.c) ∧ d.sp < 256 ∧ d.cp < 256 ∧ d.l ≤ d.c ∧ d.c ≤ maxLen ∧
          (0 < d.l → ∃ ib io, d.A = some ⟨ib, io, none⟩ ∧ ib < W.heap.size ∧ ∀ j, j < d.l → W.cell? ⟨ib, io + j, none⟩ = some (.int .u8 (d.I j)) ∧ d.I j < 256) := by
        intro i hi
        obtain ⟨c0, y0, t0⟩ := hx i hi 0 _ rfl
        obtain ⟨c1, y1, t1⟩ := hx i hi 1 _ rfl
        obtain ⟨c2, y2, t2⟩ := hx i hi 2 _ rfl
        obtain ⟨c3, y3, t3⟩ := hx i hi 3 _ rfl
        obtain ⟨c4, y4, t4⟩ := hx i hi 4 _ rfl
        obtain ⟨b0, e0, _⟩ := DataW.trod_bool Yba.underlying4 t0
        obtain ⟨b1, e1, _⟩ := DataW.trod_bool Yba.underlying4 t1
        obtain ⟨n2, e2, _, wf2⟩ := DataW.trod_int Yba.underlying5 t2
        obtain ⟨n3, e3, _, wf3⟩ := DataW.trod_int Yba.underlying5 t3
        obtain ⟨a, l, cap, Z, e4, hl4, hm4, hZ⟩ := open_nums Yba.underlying27 Yba.underlying5 (by kernel_rfl) t4
        simp only [List.cons.injEq, and_true] at e0 e1 e2 e3
        rw [e0] at c0
        rw [e1] at c1
        rw [e2] at c2
        rw [e3] at c3
        rw [e4] at c4
        have g2 := bounds_u8 wf2
        have g3 := bounds_u8 wf3
        obtain ⟨m2, rfl⟩ : ∃ m2 : Nat, n2 = m2 := ⟨n2.toNat, by omega⟩
        obtain ⟨m3, rfl⟩ : ∃ m3 : Nat, n3 = m3 := ⟨n3.toNat, by omega⟩
        refine ⟨⟨b0, b1, m2, m3, a, l, cap, fun j => (Z j).toNat⟩, by simpa using c0, by simpa [Nat.add_assoc] using c1, by simpa [Nat.add_assoc] using c2, by simpa [Nat.add_assoc] using c3, by simpa [Nat.add_assoc] using c4, by show m2 < 256; omega, by show m3 < 256; omega, hl4, hm4, fun hp => ?_⟩
        obtain ⟨ib, io, e', hb', hz'⟩ := hZ hp
        refine ⟨ib, io, e', hb', fun j hj => ?_⟩
        obtain ⟨z1, z2⟩ := hz' j hj
        have gz := bounds_u8 z2
        refine ⟨?_, by show (Z j).toNat < 256; omega⟩
        rw [z1]
        have : ((Z j).toNat : Int) = Z j := by omega
        show _ = some (Value.int .u8 ((Z j).toNat : Int))
        rw [this]
      obtain ⟨o, ho⟩ := @choose_from Nd ⟨⟨false, false, 0, 0, none, 0, 0, fun _ => 0⟩⟩ len0 _ each
      exact ⟨o, Nat.le_trans hl hm, fun _ => ⟨b, off, e, hb, ho⟩⟩
    · exact ⟨fun _ => ⟨false, false, 0, 0, none, 0, 0, fun _ => 0⟩, Nat.le_trans hl hm, fun h => absurd h hpos⟩
  obtain ⟨a1, rfl, rfl, rfl, w1⟩ := open_int Yba.underlying5 (hval 1 5 v1 rfl rfl) h1
  obtain ⟨a2, rfl, rfl, rfl, w2⟩ := open_int Yba.underlying5 (hval 2 5 v2 rfl rfl) h2
  clear hA0 hval0
  refine (walk a0 len0 cap0 o a1 a2 W hI w1 w2).mono fun e W' ⟨he, bel⟩ => ?_
  subst he
  exact ⟨_, rfl, _, _, _, [], _, [], hW', trodAll_mk1 (shut_bool Yba.underlying4 _), (trodAll_cons_mk (Below.trod laidOut (by kernel_rfl) (of_decide_eq_true (by kernel_rfl)) k0 bel lt0) (trodAll_cons_mk (shut_int Yba.underlying5 w1) (trodAll_cons_mk (shut_int Yba.underlying5 w2) trodAll_mk0))), rfl, bel.frame _, fun h => by cases h⟩

theorem over : Rows.lawS7534BWholeRow.holds Yba.pinned (OpenSpec.ofChange Rows.lawS7534BWholeSpec) :=
  OpenClaim.holds_of_wide 3 Yba.f3 rfl rfl rfl rfl rfl rfl rfl ⟨rfl, rfl, rfl, rfl, rfl⟩ rfl rfl rfl rfl rfl (by kernel_rfl) Yba.func3 (by kernel_rfl)
    (of_decide_eq_true (by kernel_rfl)) (by unfold Func.isWrapper; first | (rw [if_pos (by decide +kernel)]; kernel_rfl) | (rw [if_neg (by decide +kernel)]; exact ⟨rfl, rfl⟩))
    (fun os started H enc _ => lifted os started H enc)

theorem proved : Rows.LawS7534BWholeSaid := over
end Go.Proofs.Ybulkeyzu.lawB

namespace Go.Proofs.Ybulkeyzu
theorem lawS7534B_holds : Rows.LawS7534BWholeSaid := lawB.proved
end Go.Proofs.Ybulkeyzu
