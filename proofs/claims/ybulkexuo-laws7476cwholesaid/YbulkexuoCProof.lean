/-
  THE PROOF OF 'Rows.LawS7476CWholeSaid'. The frame follows the guide's own shell (proof-skeleton.mjs) for a law over a slice, turned for a slice of structs.
-/
import Derived.Test.YbulkexuoRows
import Derived.Test.YbulkexuoCLaw0
import Derived.Test.YbulkexuoOpen
import Derived.WalkKit
import Derived.ProofKit
import Derived.OpenShut
import Derived.ShutString
import Derived.ChangeOld
import Derived.Below
namespace Go.Proofs.Ybulkexuo.lawC
open Go.ChangeShapes Go.WideShapes Go.ChangeAt Go.RowKit Go.Deep
open Go.ChangeMaps (open_string shut_string)
set_option linter.unusedVariables false

theorem own : ownKnob Yba.prog.godebug = none := by kernel_rfl
theorem laidOut : laidOutB Yba.prog = true := by kernel_rfl

/-- What is known of the steps that came in. -/
def IsSteps (w : World) (a : Option Addr) (len cap : Nat) (G C : Nat → Int) : Prop :=
  (a = none → len = 0 ∧ cap = 0) ∧ (0 < len → ∃ b off, a = some ⟨b, off, none⟩ ∧ b < w.heap.size ∧
    ∀ k, k < len → w.cell? ⟨b, off + k * 2, none⟩ = some (.int .u8 (G k)) ∧ w.cell? ⟨b, off + k * 2 + 1, none⟩ = some (.int .i32 (C k)) ∧ 0 ≤ G k ∧ G k ≤ 255)

theorem walk (a0 : Int) (a1 : Option Addr) (len1 cap1 : Nat) (G C : Nat → Int) (a2 : Int) (w : World) (w0 : (Lit.int .i32 a0).wf = true) (w1 : IsSteps w a1 len1 cap1 G C) :
    Calls Yba.prog 4 #[.int .i32 a0, .slice a1 len1 cap1, .int .i32 a2] w fun e w' => e = .returned (.bool true) ∧ Below w.heap.size w w' := by
  have hb := bounds_i32 w0
  by_cases hbig : 1048576 < len1
  · exact law_big a0 a2 a1 len1 cap1 w hbig
  · by_cases h0 : 0 < len1
    · obtain ⟨b, off, rfl, hlt, hc⟩ := w1.2 h0
      exact law_some a0 a2 b off len1 cap1 G C w hb (by omega) h0 hlt hc
    · obtain rfl : len1 = 0 := by omega
      cases a1 with
      | none =>
        obtain ⟨_, rfl⟩ := w1.1 rfl
        exact law_nil a0 a2 w hb
      | some x => exact law_empty a0 a2 x cap1 w hb

set_option maxRecDepth 100000 in
theorem lifted (os : Os) (started : os.Started) (H : Type) (enc : TypeId × Value → H) :
    ReturnsInHanded {} Yba.checked os 4 .any (Rows.lawS7476CWholeSpec.pre6 enc Yba.prog Yba.f4 Rows.lawS7476CWholeRow.domain false) (Rows.lawS7476CWholeSpec.post enc Yba.prog Yba.f4 false true false false) := by
  refine returnsInHanded_of_change (C := Yba.checked) own started (by kernel_rfl) Yba.func4
    (ChangeSpec.witness6 (enc := enc) (C := Yba.checked) false ⟨#[], #[.int .i32 0, .slice none 0 0, .int .i32 0], []⟩ 8 (by kernel_rfl) (by kernel_rfl) (by kernel_rfl) (by kernel_rfl)) ?_
  intro W base args ds gs before hval0 hW hcnd _
  have hval : ∀ (j : Nat) t v, Yba.f4.params[j]? = some t → args[j]? = some v → Value.okWide Yba.prog W .any base t v := hval0
  have hW' := hW
  obtain ⟨p, q, hA0, hV, rfl, hfz, hnd⟩ := hW
  have hA : DataW.TrodAll enc Yba.prog W 0 (fun _ => true) true Yba.f4.params.toList args.toList ds p := hA0
  rw [Yba.params4] at hA hval
  obtain ⟨v0, vs0, d0, ds0, p0, q0, hargs, rfl, rfl, h0, r0⟩ := trodAll_cons hA
  obtain ⟨v1, vs1, d1, ds1, p1, q1, rfl, rfl, rfl, h1, r1⟩ := trodAll_cons r0
  obtain ⟨v2, vs2, d2, ds2, p2, q2, rfl, rfl, rfl, h2, r2⟩ := trodAll_cons r1
  obtain ⟨rfl, rfl, rfl⟩ := trodAll_nil r2
  obtain rfl : args = #[v0, v1, v2] := by cases args; simp_all
  obtain ⟨rfl, rfl⟩ := trodVars_none hV
  obtain ⟨a0, rfl, rfl, rfl, w0⟩ := open_int Yba.underlying21 (hval 0 21 v0 rfl rfl) h0
  obtain ⟨a1, len1, cap1, rfl⟩ := okWide_slice Yba.underlying75 (hval 1 75 v1 rfl rfl)
  have k1 := h1
  have lt1 : ∀ x ∈ p1, x.block < W.heap.size := by obtain ⟨m, hm⟩ := k1; exact DataW.trod_lt m _ _ _ hm
  obtain ⟨G, C, w1⟩ : ∃ G C, IsSteps W a1 len1 cap1 G C := by
    obtain ⟨fuel, hf⟩ := h1
    obtain ⟨n, V, hl, hm, hn, hc⟩ := open_structs (K := 2) Yba.underlying75 Yba.underlying77 (hone_of (by kernel_rfl)) (by kernel_rfl) rfl (by omega) hf
    refine ⟨fun i => intOf (V i 0), fun i => intOf (V i 1), hn, fun hp => ?_⟩
    obtain ⟨b, off, e, hb, hx⟩ := hc hp
    refine ⟨b, off, e, hb, fun k hk => ?_⟩
    obtain ⟨c0, y0, t0⟩ := hx k hk 0 _ rfl
    obtain ⟨c1, y1, t1⟩ := hx k hk 1 _ rfl
    obtain ⟨n0, e0, _, wf0⟩ := DataW.trod_int Yba.underlying5 t0
    obtain ⟨n1, e1, _, wf1⟩ := DataW.trod_int Yba.underlying21 t1
    simp only [List.cons.injEq, and_true] at e0 e1
    have hb0 := bounds_u8 wf0
    dsimp only
    rw [e0] at c0 ⊢
    rw [e1] at c1 ⊢
    exact ⟨by simpa [intOf] using c0, by simpa [intOf, Nat.add_assoc] using c1, by simpa [intOf] using hb0.1, by simpa [intOf] using hb0.2⟩
  obtain ⟨a2, rfl, rfl, rfl, w2⟩ := open_int Yba.underlying21 (hval 2 21 v2 rfl rfl) h2
  clear hA0 hval0
  refine (walk a0 a1 len1 cap1 G C a2 W w0 w1).mono fun e W' ⟨he, bel⟩ => ?_
  subst he
  exact ⟨_, rfl, _, _, _, [], _, [], hW', trodAll_mk1 (shut_bool Yba.underlying4 _), (trodAll_cons_mk (shut_int Yba.underlying21 w0) (trodAll_cons_mk (Below.trod laidOut (by kernel_rfl) (of_decide_eq_true (by kernel_rfl)) k1 bel lt1) (trodAll_cons_mk (shut_int Yba.underlying21 w2) trodAll_mk0))), rfl, bel.frame _, fun h => by cases h⟩

theorem over : Rows.lawS7476CWholeRow.holds Yba.pinned (OpenSpec.ofChange Rows.lawS7476CWholeSpec) :=
  OpenClaim.holds_of_wide 4 Yba.f4 rfl rfl rfl rfl rfl rfl rfl ⟨rfl, rfl, rfl, rfl, rfl⟩ rfl rfl rfl rfl rfl (by kernel_rfl) Yba.func4 (by kernel_rfl)
    (of_decide_eq_true (by kernel_rfl)) (by unfold Func.isWrapper; first | (rw [if_pos (by decide +kernel)]; kernel_rfl) | (rw [if_neg (by decide +kernel)]; exact ⟨rfl, rfl⟩))
    (fun os started H enc _ => lifted os started H enc)

theorem proved : Rows.LawS7476CWholeSaid := over
end Go.Proofs.Ybulkexuo.lawC

namespace Go.Proofs.Ybulkexuo
theorem lawS7476C_holds : Rows.LawS7476CWholeSaid := lawC.proved
end Go.Proofs.Ybulkexuo
