/-
  THE PROOF OF 'Rows.LawS7536BWholeSaid' AND OF THE TIED CARD 'Rows.LawS7536BWholeCardSaid'. The frame after the guide's worked texts (a law over slices; a listed variable; a tied card).
-/
import Derived.Test.YbulkezawDoorRows
import Derived.Test.YbulkezawDoorTie
import Derived.Test.YbulkezawDoorCards
import Derived.Test.YbulkezawDoorW6
import Derived.Test.YbulkezawDoorOpen
import Derived.WalkKit
import Derived.ProofKit
import Derived.OpenShut
import Derived.ChangeOld
import Derived.Below
import Derived.LaidMore
import Derived.Stop.Joined
import Derived.SevenTiedAt
namespace Go.Proofs.YbulkezawDoor
open Go.ChangeShapes Go.WideShapes Go.ChangeAt Go.RowKit Go.Deep
set_option linter.unusedVariables false

theorem own : ownKnob Ybad.prog.godebug = none := by kernel_rfl
theorem laidOut : laidOutB Ybad.prog = true := by kernel_rfl
theorem tZ4 : (Ybad.prog.globals[0]?).map (·.type) = some 36 := by kernel_rfl

/-- what the condition gives the walk: the variable's one cell holds a pointer -/
theorem of_laid {W : World} (h : laidMetH Ybad.prog Rows.lawS7536BWholeRow.laid W) : ∃ z, W.cell? ⟨0, 0, none⟩ = some (.pointer z) := by
  rw [MakeChecks.laidMetH_plain _ _ _ (by kernel_rfl)] at h
  obtain ⟨ps, ⟨g0, t0, cs0, f0, p0, q0, hg0, ht0, hv0, hd0, _, _⟩, _, _⟩ := h
  have eg : (some 0 : Option Nat) = some g0 := by rw [← hg0]; kernel_rfl
  obtain rfl := Option.some.inj eg
  obtain rfl := Option.some.inj (tZ4.symm.trans ht0)
  have c34 : Ybad.prog.cellsOf 34 = 1 := by kernel_rfl
  have c36 : Ybad.prog.cellsOf 36 = 1 := by kernel_rfl
  obtain ⟨xs, n, _, _, hl, hxl, hf⟩ := DataW.trod_struct Ybad.underlying36 hd0
  have h0 := hf 0 _ rfl
  rw [c36] at hl
  obtain ⟨l⟩ := cs0
  match l, hl with
  | [v], _ =>
    have hcell := World.var?_cell hg0 hv0 0
    simp at hcell
    match xs, hxl with
    | [x0], _ =>
      simp [c34] at h0
      rcases DataW.trod_pointer Ybad.underlying34 h0 with ⟨e, _⟩ | ⟨a, cs', y, m, _, e, _⟩
      · simp at e; subst e; exact ⟨none, hcell⟩
      · simp at e; subst e; exact ⟨some a, hcell⟩

/-- A start that meets the condition: the variable's cell leads to a new block that holds an address' details. -/
theorem start_met (os : Os) (args : Array Value) : laidMetH Ybad.prog Rows.lawS7536BWholeRow.laid (({ World.holding Ybad.prog os ⟨#[.cells #[.bool false, .string ⟨#[]⟩] 73], #[], []⟩ with heap := (World.holding Ybad.prog os ⟨#[.cells #[.bool false, .string ⟨#[]⟩] 73], #[], []⟩).heap.modify 0 (fun o => match o with | .cells _ t fr => .cells #[.pointer (some ⟨(World.settled Ybad.prog os).heap.size, 0, none⟩)] t fr | o => o) } : World).forCall (fun _ _ => 0) ⟨#[], args, []⟩).memory :=
  laidMetH_of_parts3 (fuel := 8) (laidMet_of_run' 8 (by kernel_rfl) (by kernel_rfl)) (by kernel_rfl) (by kernel_rfl)

theorem bytes26 : Ybad.prog.bytesOf 26 = 40 := by kernel_rfl
theorem bytes5 : Ybad.prog.bytesOf 5 = 1 := by kernel_rfl

set_option maxRecDepth 100000 in
theorem lifted (os : Os) (started : os.Started) (H : Type) (enc : TypeId × Value → H) :
    ReturnsInHanded {} Ybad.checked os 3 .any (fun w args => (Rows.lawS7536BWholeSpec.pre enc Ybad.prog Ybad.f3 [] false w args ∧ laidMetH Ybad.prog Rows.lawS7536BWholeRow.laid w) ∧ sizedMet enc Ybad.prog Ybad.f3 (OpenSpec.ofChange Rows.lawS7536BWholeSpec) false w args)
      (Rows.lawS7536BWholeSpec.post enc Ybad.prog Ybad.f3 false true false false) := by
  refine returnsInHanded_of_change_and (C := Ybad.checked) (X := fun w _ => laidMetH Ybad.prog Rows.lawS7536BWholeRow.laid w) (fun _ _ _ hh h => h.of_heap hh) own started (by kernel_rfl) Ybad.func3
    (ChangeSpec.witness_shaped (enc := enc) (C := Ybad.checked) (os := os) (X := fun w _ => laidMetH Ybad.prog Rows.lawS7536BWholeRow.laid w) false ({ World.holding Ybad.prog os ⟨#[.cells #[.bool false, .string ⟨#[]⟩] 73], #[], []⟩ with heap := (World.holding Ybad.prog os ⟨#[.cells #[.bool false, .string ⟨#[]⟩] 73], #[], []⟩).heap.modify 0 (fun o => match o with | .cells _ t fr => .cells #[.pointer (some ⟨(World.settled Ybad.prog os).heap.size, 0, none⟩)] t fr | o => o) } : World) #[.slice none 0 0, .int .u8 0, .int .u32 0] 8 rfl (World.shaped_of_RefB (by kernel_rfl) (by kernel_rfl)) (by kernel_rfl) (by kernel_rfl) (by kernel_rfl) (start_met os _)) ?_
  intro W base args ds gs before hval0 hW _ hsz0 hL _
  have hsz : (DataW.weightsEach Ybad.prog (Ybad.f3.params.toList ++ Rows.lawS7536BWholeSpec.plain.varTypes Ybad.prog) (ds ++ gs)).all (· ≤ reachBytes) = true := hsz0
  clear hsz0
  have hval : ∀ (j : Nat) t v, Ybad.f3.params[j]? = some t → args[j]? = some v → Value.okWide Ybad.prog W .any base t v := hval0
  have hW' := hW
  obtain ⟨p, q, hA0, hV, rfl, hfz, hnd⟩ := hW
  have hA : DataW.TrodAll enc Ybad.prog W 0 (fun _ => true) true Ybad.f3.params.toList args.toList ds p := hA0
  rw [Ybad.params3] at hA hval hsz
  obtain ⟨v0, vs0, d0, ds0, p0, q0, hargs, rfl, rfl, h0, r0⟩ := trodAll_cons hA
  obtain ⟨v1, vs1, d1, ds1, p1, q1, rfl, rfl, rfl, h1, r1⟩ := trodAll_cons r0
  obtain ⟨v2, vs2, d2, ds2, p2, q2, rfl, rfl, rfl, h2, r2⟩ := trodAll_cons r1
  obtain ⟨rfl, rfl, rfl⟩ := trodAll_nil r2
  obtain rfl : args = #[v0, v1, v2] := by cases args; simp_all
  obtain ⟨rfl, rfl⟩ := trodVars_none hV
  obtain ⟨a0, len0, cap0, rfl⟩ := okWide_slice Ybad.underlying22 (hval 0 22 v0 rfl rfl)
  have k0 := h0
  have lt0 : ∀ x ∈ p0, x.block < W.heap.size := by obtain ⟨m, hm⟩ := k0; exact DataW.trod_lt m _ _ _ hm
  have hfit : Fits Ybad.prog 22 d0 := fits_of hsz (j := 0) rfl rfl
  obtain ⟨o, hI, hn⟩ : ∃ o, InOpts W a0 len0 cap0 o ∧ len0 ≤ 4398046511104 := by
    obtain ⟨fuel, hf⟩ := h0
    obtain ⟨n, V, hl, hm, hnil, hw, hc⟩ := open_structs (K := 3) Ybad.underlying22 Ybad.underlying26 (hone_of (by kernel_rfl)) (by kernel_rfl) rfl (by omega) hf hfit
    have hlen : len0 ≤ 4398046511104 := by
      rw [bytes26] at hw
      unfold reachBytes at hw
      omega
    by_cases hpos : 0 < len0
    · obtain ⟨b, off, e, hb, hx⟩ := hc hpos
      have each : ∀ i, i < len0 → ∃ o : Opt, W.cell? ⟨b, off + i * 3, none⟩ = some (.int .u8 o.c) ∧ W.cell? ⟨b, off + i * 3 + 1, none⟩ = some (.slice o.a o.l o.cap) ∧ W.cell? ⟨b, off + i * 3 + 2, none⟩ = some (.bool o.f) ∧ IsData W o.a o.l o.cap o.D ∧ o.l ≤ 140737488355328 := by
        intro i hi
        obtain ⟨c0, y0, t0, _⟩ := hx i hi 0 _ rfl
        obtain ⟨c1, y1, t1, ft1⟩ := hx i hi 1 _ rfl
        obtain ⟨c2, y2, t2, _⟩ := hx i hi 2 _ rfl
        obtain ⟨n0, e0, _, wf0⟩ := DataW.trod_int Ybad.underlying5 t0
        obtain ⟨bb, e2, _⟩ := DataW.trod_bool Ybad.underlying4 t2
        obtain ⟨a, l, cap, Z, e1, _, _, hnl, hwl, hZ⟩ := open_nums Ybad.underlying24 Ybad.underlying5 (by kernel_rfl) t1 ft1
        simp only [List.cons.injEq, and_true] at e0 e2
        rw [e0] at c0
        rw [e1] at c1
        rw [e2] at c2
        rw [bytes5] at hwl
        unfold reachBytes at hwl
        refine ⟨⟨n0, a, l, cap, bb, Z⟩, by simpa using c0, by simpa [Nat.add_assoc] using c1, by simpa [Nat.add_assoc] using c2, ⟨hnl, fun hp => ?_⟩, by show l ≤ _; omega⟩
        obtain ⟨b', off', e', hb', hz'⟩ := hZ hp
        exact ⟨b', off', e', hb', fun j hj => (hz' j hj).1⟩
      obtain ⟨o, ho⟩ := @choose_lt Opt ⟨⟨0, none, 0, 0, false, fun _ => 0⟩⟩ len0 _ each
      exact ⟨o, ⟨hnil, fun _ => ⟨b, off, e, hb, ho⟩⟩, hlen⟩
    · exact ⟨fun _ => ⟨0, none, 0, 0, false, fun _ => 0⟩, ⟨hnil, fun h => absurd h hpos⟩, hlen⟩
  obtain ⟨a1, rfl, rfl, rfl, w1⟩ := open_int Ybad.underlying5 (hval 1 5 v1 rfl rfl) h1
  obtain ⟨a2, rfl, rfl, rfl, w2⟩ := open_int Ybad.underlying23 (hval 2 23 v2 rfl rfl) h2
  obtain ⟨z, hz⟩ := of_laid hL
  have hpos : 0 < W.heap.size := World.block_lt_of_cell? W _ hz
  clear hA0 hval0
  refine (law_walk a0 len0 cap0 o a1 a2 z W hz hpos hn hI).mono fun e W' ⟨he, bel⟩ => ?_
  subst he
  exact ⟨_, rfl, _, _, _, [], _, [], hW', trodAll_mk1 (shut_bool Ybad.underlying4 _), (trodAll_cons_mk (Below.trod laidOut (by kernel_rfl) (of_decide_eq_true (by kernel_rfl)) k0 bel lt0) (trodAll_cons_mk (shut_int Ybad.underlying5 w1) (trodAll_cons_mk (shut_int Ybad.underlying23 w2) trodAll_mk0))), rfl, bel.frame _, fun h => by cases h⟩

theorem over : Rows.LawS7536BWholeSaid :=
  OpenClaim.holds_of_wide 3 Ybad.f3 rfl rfl rfl rfl rfl rfl rfl ⟨rfl, rfl, rfl, rfl, rfl⟩ rfl rfl rfl rfl rfl (by kernel_rfl) Ybad.func3 (by kernel_rfl)
    (of_decide_eq_true (by kernel_rfl)) (by unfold Func.isWrapper; first | (rw [if_pos (by decide +kernel)]; kernel_rfl) | (rw [if_neg (by decide +kernel)]; exact ⟨rfl, rfl⟩))
    (fun os started H enc _ => lifted os started H enc)

theorem lawS7536B_card : Rows.LawS7536BWholeCardSaid :=
  Claim7.holds_tied_plain_at .later [] [.called] true (true, "55fe759891fb823fa94d3b6f8c82554ee273abb0c55e9e1d805ef59cdf30d0d4") false
    over (fun _ h => by cases h) (by kernel_rfl) (fun _ h => by cases h) lawS7536BWhole_row_tie rfl ⟨rfl, rfl⟩ (by kernel_rfl) rfl
    (fun f fn hf hfn => by
      obtain rfl : f = 3 := Option.some.inj ((show Ybad.prog.funcNamed Rows.lawS7536BWholeRow.func = some 3 by kernel_rfl).symm.trans hf) |>.symm
      obtain rfl : fn = Ybad.f3 := (Option.some.inj (Ybad.func3.symm.trans hfn)).symm
      exact ⟨by kernel_rfl, fun j t ht => by
        rw [Ybad.params3] at ht
        have hm : t ∈ [22, 5, 23] := by simpa using Array.mem_of_getElem? ht
        have hall : ([22, 5, 23].all fun u => !Ybad.prog.wantsStandIn u) = true := by kernel_rfl
        exact (show Ybad.prog.wantsStandIn t = false by simpa using List.all_eq_true.1 hall t hm)⟩)
    (by kernel_rfl)
end Go.Proofs.YbulkezawDoor
