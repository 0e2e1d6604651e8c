import Derived.Test.YbulkexuoK2
namespace Go.Proofs.Ybulkexuo
open Go.RowKit
set_option linter.unusedSimpArgs false
set_option linter.unusedVariables false


set_option maxRecDepth 100000 in
theorem list_gen (arB : Nat) (a0 : Option Addr) (n c s e : Nat) (w : World) (hlt : arB < w.heap.size) (cu : w.cell? ⟨arB, 1, none⟩ = some (.slice none 0 0)) (cs : w.cell? ⟨arB, 4, none⟩ = some (.slice a0 n c)) (ha : a0 = none ∧ n = 0 ∧ c = 0 ∨ ∃ b, a0 = some ⟨b, 0, none⟩) (hs : s ≤ e) (he : e ≤ n) (hn : n ≤ c) (hc : c ≤ 9223372036854775807) (hlt2 : n ≤ 1000000) :
    Calls Yba.prog 22 #[ptr arB, .agg #[.int .i32 s, .int .i32 e]] w fun r w' => StkR a0 s e r ∧ Below w.heap.size w w' := by
  refine calls_of_wp (c := Yba.f22.body.getD .skip) Yba.func22 (by kernel_rfl) ?_
  rw [Yba.ntmps22]
  have hK := kn_call [ptr arB, .agg #[.int .i32 s, .int .i32 e]] 17 (L := [(1, .agg #[.int .i32 s, .int .i32 e]), (0, ptr arB)]) ⟨rfl, rfl, trivial⟩ (by simp)
  generalize ({ tmps := [ptr arB, .agg #[.int .i32 s, .int .i32 e]].toArray ++ Array.replicate (17 - [ptr arB, .agg #[.int .i32 s, .int .i32 e]].toArray.size) undef, defers := [] } : Act) = a at *
  have hb1 := bel_alloc (Below.refl w.heap.size w) (.cells #[.int .i32 s, .int .i32 e] 40)
  have n0 := cell_new w #[.int .i32 s, .int .i32 e] 40 (i := 0) rfl
  have n1 := cell_new w #[.int .i32 s, .int .i32 e] 40 (i := 1) rfl
  have cu1 := (hb1.cell (p := ⟨arB, 1, none⟩) hlt).trans cu
  have cs1 := (hb1.cell (p := ⟨arB, 4, none⟩) hlt).trans cs
  have hsz : w.heap.size < (w.alloc (.cells #[.int .i32 s, .int .i32 e] 40)).heap.size := by show _ < (w.heap.push _).size; rw [Array.size_push]; omega
  conv => arg 2; whnf
  refine wp_seq ?_
  refine wp_region_lit ?_
  refine kl hK 3 rfl (by decide) rfl (fun ρ hρ => r_box40 _ rfl (hρ _ _ rfl)) ?_
  clear hK a; intro a hK
  refine kl hK 4 rfl (by decide) rfl (fun ρ hρ => r_as _ rfl (hρ _ _ rfl)) ?_
  clear hK a; intro a hK
  refine wpList_nil ?_
  show Code.wp Yba.prog _ _ _ _
  generalize hw1 : w.alloc (.cells #[.int .i32 s, .int .i32 e] 40) = w1 at *
  clear hw1
  refine wp_seq ?_
  refine wp_region_noPanic ?_
  refine wp_region_held_drew (S := fun w' => w'.cell? ⟨arB, 1, none⟩ = some (.slice none 0 0) ∧ w'.cell? ⟨arB, 4, none⟩ = some (.slice a0 n c) ∧ w'.cell? ⟨w.heap.size, 0, none⟩ = some (.int .i32 s) ∧ w'.cell? ⟨w.heap.size, 1, none⟩ = some (.int .i32 e)) (by kernel_rfl) ⟨cu1, cs1, n0, n1⟩ (fun hS0 => ?_)
  refine kt hK (i := 0) 5 rfl (by kernel_rfl) (by kernel_rfl) (by kernel_rfl) (fun _ _ _ h => h) hS0 rfl (by decide) rfl (fun ρ hρ w' hw' => r_mv _ rfl (hρ _ _ rfl)) ?_
  clear hK a; intro a hK
  refine kt hK (i := 1) 6 rfl (by kernel_rfl) (by kernel_rfl) (by kernel_rfl) (fun _ _ _ h => h) hS0 rfl (by decide) rfl (fun ρ hρ w' hw' => r_nil _ rfl (hρ _ _ rfl)) ?_
  clear hK a; intro a hK
  refine kt hK (i := 2) 7 rfl (by kernel_rfl) (by kernel_rfl) (by kernel_rfl) (fun _ _ _ h => h) hS0 rfl (by decide) rfl (fun ρ hρ w' hw' => r_fo56_0 _ rfl (hρ _ _ rfl)) ?_
  clear hK a; intro a hK
  refine kt hK (i := 3) 8 rfl (by kernel_rfl) (by kernel_rfl) (by kernel_rfl) (fun _ _ _ h => h) hS0 rfl (by decide) rfl (fun ρ hρ w' hw' => r_fa53_1 _ rfl (hρ _ _ rfl)) ?_
  clear hK a; intro a hK
  refine kt hK (i := 4) 9 rfl (by kernel_rfl) (by kernel_rfl) (by kernel_rfl) (fun _ _ _ h => h) hS0 rfl (by decide) rfl (fun ρ hρ w' hw' => r_ld32 _ rfl (hρ _ _ rfl) hw'.1) ?_
  clear hK a; intro a hK
  refine kt hK (i := 5) 10 rfl (by kernel_rfl) (by kernel_rfl) (by kernel_rfl) (fun _ _ _ h => h) hS0 rfl (by decide) rfl (fun ρ hρ w' hw' => r_mv _ rfl (hρ _ _ rfl)) ?_
  clear hK a; intro a hK
  refine kt hK (i := 6) 11 rfl (by kernel_rfl) (by kernel_rfl) (by kernel_rfl) (fun _ _ _ h => h) hS0 rfl (by decide) rfl (fun ρ hρ w' hw' => r_nil _ rfl (hρ _ _ rfl)) ?_
  clear hK a; intro a hK
  refine kt hK (i := 7) 12 rfl (by kernel_rfl) (by kernel_rfl) (by kernel_rfl) (fun _ _ _ h => h) hS0 rfl (by decide) rfl (fun ρ hρ w' hw' => r_fo56_1 _ rfl (hρ _ _ rfl)) ?_
  clear hK a; intro a hK
  refine kt hK (i := 8) 13 rfl (by kernel_rfl) (by kernel_rfl) (by kernel_rfl) (fun _ _ _ h => h) hS0 rfl (by decide) rfl (fun ρ hρ w' hw' => r_fa53_1 _ rfl (hρ _ _ rfl)) ?_
  clear hK a; intro a hK
  refine kt hK (i := 9) 14 rfl (by kernel_rfl) (by kernel_rfl) (by kernel_rfl) (fun _ _ _ h => h) hS0 rfl (by decide) rfl (fun ρ hρ w' hw' => r_ld32 _ rfl (hρ _ _ rfl) hw'.2.1) ?_
  clear hK a; intro a hK
  refine kt hK (i := 10) 15 rfl (by kernel_rfl) (by kernel_rfl) (by kernel_rfl) (fun _ _ _ h => h) hS0 rfl (by decide) rfl (fun ρ hρ w' hw' => r_ld40z _ rfl (hρ _ _ rfl) hw'.2.2.1 hw'.2.2.2) ?_
  clear hK a; intro a hK
  refine kd_call hK (i := 11) 16 (by kernel_rfl) rfl rfl (by decide) rfl (fun ρ hρ => r_call30 _ _ _ rfl (hρ _ _ rfl) (hρ _ _ rfl) (hρ _ _ rfl) (hρ _ _ rfl)) (stk30 a0 n c s e w1.drew ha hs he hn hc hlt2) ?_
  rintro e w2 ⟨⟨a', c', rfl, ha'⟩, hb2⟩
  have hS1 := show w2.cell? ⟨arB, 1, none⟩ = some (.slice none 0 0) ∧ w2.cell? ⟨arB, 4, none⟩ = some (.slice a0 n c) ∧ w2.cell? ⟨w.heap.size, 0, none⟩ = some (.int .i32 s) ∧ w2.cell? ⟨w.heap.size, 1, none⟩ = some (.int .i32 e) from ⟨(hb2.cell (p := ⟨arB, 1, none⟩) (Nat.lt_trans hlt hsz)).trans cu1, (hb2.cell (p := ⟨arB, 4, none⟩) (Nat.lt_trans hlt hsz)).trans cs1, (hb2.cell (p := ⟨w.heap.size, 0, none⟩) hsz).trans n0, (hb2.cell (p := ⟨w.heap.size, 1, none⟩) hsz).trans n1⟩
  refine ⟨_, rfl, hS1, ?_⟩
  clear hS0
  have hS0 := hS1
  clear hK a; intro a hK
  refine kt hK (i := 12) 4 rfl (by kernel_rfl) (by kernel_rfl) (by kernel_rfl) (fun _ _ _ h => h) hS0 rfl (by decide) rfl (fun ρ hρ w' hw' => r_as _ rfl (hρ _ _ rfl)) ?_
  clear hK a; intro a hK
  refine wpAnyH_done (by kernel_rfl) ?_ _
  show Code.wp Yba.prog _ _ _ _
  refine wp_ret ?_
  exact kret1 (s := 4) hK rfl rfl ⟨⟨a', c', rfl, ha'⟩, bel_trans hb1 (show Below w1.heap.size w1 w2 from ⟨hb2.os, hb2.tape, hb2.output, hb2.size, hb2.block⟩)⟩

set_option maxRecDepth 100000 in
theorem run_gen (arB : Nat) (a0 : Option Addr) (n c s e : Nat) (w : World) (hlt : arB < w.heap.size) (cu : w.cell? ⟨arB, 0, none⟩ = some (.slice none 0 0)) (cs : w.cell? ⟨arB, 3, none⟩ = some (.slice a0 n c)) (ha : a0 = none ∧ n = 0 ∧ c = 0 ∨ ∃ b, a0 = some ⟨b, 0, none⟩) (hs : s ≤ e) (he : e ≤ n) (hn : n ≤ c) (hc : c ≤ 9223372036854775807) (hlt2 : n ≤ 1000000) :
    Calls Yba.prog 23 #[ptr arB, .agg #[.int .i32 s, .int .i32 e]] w fun r w' => StkR a0 s e r ∧ Below w.heap.size w w' := by
  refine calls_of_wp (c := Yba.f23.body.getD .skip) Yba.func23 (by kernel_rfl) ?_
  rw [Yba.ntmps23]
  have hK := kn_call [ptr arB, .agg #[.int .i32 s, .int .i32 e]] 17 (L := [(1, .agg #[.int .i32 s, .int .i32 e]), (0, ptr arB)]) ⟨rfl, rfl, trivial⟩ (by simp)
  generalize ({ tmps := [ptr arB, .agg #[.int .i32 s, .int .i32 e]].toArray ++ Array.replicate (17 - [ptr arB, .agg #[.int .i32 s, .int .i32 e]].toArray.size) undef, defers := [] } : Act) = a at *
  have hb1 := bel_alloc (Below.refl w.heap.size w) (.cells #[.int .i32 s, .int .i32 e] 40)
  have n0 := cell_new w #[.int .i32 s, .int .i32 e] 40 (i := 0) rfl
  have n1 := cell_new w #[.int .i32 s, .int .i32 e] 40 (i := 1) rfl
  have cu1 := (hb1.cell (p := ⟨arB, 0, none⟩) hlt).trans cu
  have cs1 := (hb1.cell (p := ⟨arB, 3, none⟩) hlt).trans cs
  have hsz : w.heap.size < (w.alloc (.cells #[.int .i32 s, .int .i32 e] 40)).heap.size := by show _ < (w.heap.push _).size; rw [Array.size_push]; omega
  conv => arg 2; whnf
  refine wp_seq ?_
  refine wp_region_lit ?_
  refine kl hK 3 rfl (by decide) rfl (fun ρ hρ => r_box40 _ rfl (hρ _ _ rfl)) ?_
  clear hK a; intro a hK
  refine kl hK 4 rfl (by decide) rfl (fun ρ hρ => r_as _ rfl (hρ _ _ rfl)) ?_
  clear hK a; intro a hK
  refine wpList_nil ?_
  show Code.wp Yba.prog _ _ _ _
  generalize hw1 : w.alloc (.cells #[.int .i32 s, .int .i32 e] 40) = w1 at *
  clear hw1
  refine wp_seq ?_
  refine wp_region_noPanic ?_
  refine wp_region_held_drew (S := fun w' => w'.cell? ⟨arB, 0, none⟩ = some (.slice none 0 0) ∧ w'.cell? ⟨arB, 3, none⟩ = some (.slice a0 n c) ∧ w'.cell? ⟨w.heap.size, 0, none⟩ = some (.int .i32 s) ∧ w'.cell? ⟨w.heap.size, 1, none⟩ = some (.int .i32 e)) (by kernel_rfl) ⟨cu1, cs1, n0, n1⟩ (fun hS0 => ?_)
  refine kt hK (i := 0) 5 rfl (by kernel_rfl) (by kernel_rfl) (by kernel_rfl) (fun _ _ _ h => h) hS0 rfl (by decide) rfl (fun ρ hρ w' hw' => r_mv _ rfl (hρ _ _ rfl)) ?_
  clear hK a; intro a hK
  refine kt hK (i := 1) 6 rfl (by kernel_rfl) (by kernel_rfl) (by kernel_rfl) (fun _ _ _ h => h) hS0 rfl (by decide) rfl (fun ρ hρ w' hw' => r_nil _ rfl (hρ _ _ rfl)) ?_
  clear hK a; intro a hK
  refine kt hK (i := 2) 7 rfl (by kernel_rfl) (by kernel_rfl) (by kernel_rfl) (fun _ _ _ h => h) hS0 rfl (by decide) rfl (fun ρ hρ w' hw' => r_fo56_0 _ rfl (hρ _ _ rfl)) ?_
  clear hK a; intro a hK
  refine kt hK (i := 3) 8 rfl (by kernel_rfl) (by kernel_rfl) (by kernel_rfl) (fun _ _ _ h => h) hS0 rfl (by decide) rfl (fun ρ hρ w' hw' => r_fa53_0 _ rfl (hρ _ _ rfl)) ?_
  clear hK a; intro a hK
  refine kt hK (i := 4) 9 rfl (by kernel_rfl) (by kernel_rfl) (by kernel_rfl) (fun _ _ _ h => h) hS0 rfl (by decide) rfl (fun ρ hρ w' hw' => r_ld31 _ rfl (hρ _ _ rfl) hw'.1) ?_
  clear hK a; intro a hK
  refine kt hK (i := 5) 10 rfl (by kernel_rfl) (by kernel_rfl) (by kernel_rfl) (fun _ _ _ h => h) hS0 rfl (by decide) rfl (fun ρ hρ w' hw' => r_mv _ rfl (hρ _ _ rfl)) ?_
  clear hK a; intro a hK
  refine kt hK (i := 6) 11 rfl (by kernel_rfl) (by kernel_rfl) (by kernel_rfl) (fun _ _ _ h => h) hS0 rfl (by decide) rfl (fun ρ hρ w' hw' => r_nil _ rfl (hρ _ _ rfl)) ?_
  clear hK a; intro a hK
  refine kt hK (i := 7) 12 rfl (by kernel_rfl) (by kernel_rfl) (by kernel_rfl) (fun _ _ _ h => h) hS0 rfl (by decide) rfl (fun ρ hρ w' hw' => r_fo56_1 _ rfl (hρ _ _ rfl)) ?_
  clear hK a; intro a hK
  refine kt hK (i := 8) 13 rfl (by kernel_rfl) (by kernel_rfl) (by kernel_rfl) (fun _ _ _ h => h) hS0 rfl (by decide) rfl (fun ρ hρ w' hw' => r_fa53_0 _ rfl (hρ _ _ rfl)) ?_
  clear hK a; intro a hK
  refine kt hK (i := 9) 14 rfl (by kernel_rfl) (by kernel_rfl) (by kernel_rfl) (fun _ _ _ h => h) hS0 rfl (by decide) rfl (fun ρ hρ w' hw' => r_ld31 _ rfl (hρ _ _ rfl) hw'.2.1) ?_
  clear hK a; intro a hK
  refine kt hK (i := 10) 15 rfl (by kernel_rfl) (by kernel_rfl) (by kernel_rfl) (fun _ _ _ h => h) hS0 rfl (by decide) rfl (fun ρ hρ w' hw' => r_ld40z _ rfl (hρ _ _ rfl) hw'.2.2.1 hw'.2.2.2) ?_
  clear hK a; intro a hK
  refine kd_call hK (i := 11) 16 (by kernel_rfl) rfl rfl (by decide) rfl (fun ρ hρ => r_call31 _ _ _ rfl (hρ _ _ rfl) (hρ _ _ rfl) (hρ _ _ rfl) (hρ _ _ rfl)) (stk31 a0 n c s e w1.drew ha hs he hn hc hlt2) ?_
  rintro e w2 ⟨⟨a', c', rfl, ha'⟩, hb2⟩
  have hS1 := show w2.cell? ⟨arB, 0, none⟩ = some (.slice none 0 0) ∧ w2.cell? ⟨arB, 3, none⟩ = some (.slice a0 n c) ∧ w2.cell? ⟨w.heap.size, 0, none⟩ = some (.int .i32 s) ∧ w2.cell? ⟨w.heap.size, 1, none⟩ = some (.int .i32 e) from ⟨(hb2.cell (p := ⟨arB, 0, none⟩) (Nat.lt_trans hlt hsz)).trans cu1, (hb2.cell (p := ⟨arB, 3, none⟩) (Nat.lt_trans hlt hsz)).trans cs1, (hb2.cell (p := ⟨w.heap.size, 0, none⟩) hsz).trans n0, (hb2.cell (p := ⟨w.heap.size, 1, none⟩) hsz).trans n1⟩
  refine ⟨_, rfl, hS1, ?_⟩
  clear hS0
  have hS0 := hS1
  clear hK a; intro a hK
  refine kt hK (i := 12) 4 rfl (by kernel_rfl) (by kernel_rfl) (by kernel_rfl) (fun _ _ _ h => h) hS0 rfl (by decide) rfl (fun ρ hρ w' hw' => r_as _ rfl (hρ _ _ rfl)) ?_
  clear hK a; intro a hK
  refine wpAnyH_done (by kernel_rfl) ?_ _
  show Code.wp Yba.prog _ _ _ _
  refine wp_ret ?_
  exact kret1 (s := 4) hK rfl rfl ⟨⟨a', c', rfl, ha'⟩, bel_trans hb1 (show Below w1.heap.size w1 w2 from ⟨hb2.os, hb2.tape, hb2.output, hb2.size, hb2.block⟩)⟩

/-- 'find' in level l -/
theorem find_lvl (D : PD) (hD : D.Fine) (l q : Nat) (hq : q < D.N) (a : Option Addr) (c : Nat) (w : World) (hE : ∀ k e, (D.EL l)[k]? = some e → ∃ b, a = some ⟨b, D.eo l * 2, none⟩ ∧ b < w.heap.size ∧ w.cell? ⟨b, (D.eo l + k) * 2, none⟩ = some (.int .i32 e.1) ∧ w.cell? ⟨b, (D.eo l + k) * 2 + 1, none⟩ = some (.int .i32 e.2)) :
    Calls Yba.prog 16 #[.slice a (D.EL l).length c, .int .i32 q] w fun e w' => e = .returned (.tuple #[.int .i32 (if D.bit l q = true then (D.cnt l q, true) else (0, false)).1, .bool (if D.bit l q = true then (D.cnt l q, true) else (0, false)).2]) ∧ Below w.heap.size w w' := by
  have hN := hD.N20
  have hlen := EL_len (D := D) l
  obtain ⟨P, hP⟩ : ∃ P : Nat → Int, P = fun k => (((((D.EL l)[k]?).getD (0, 0)).1 : Nat) : Int) := ⟨_, rfl⟩
  obtain ⟨C, hC⟩ : ∃ C : Nat → Int, C = fun k => (((D.EL l)[k]?).getD (0, 0)).2 := ⟨_, rfl⟩
  have hPC : ∀ k x, (D.EL l)[k]? = some x → P k = x.1 ∧ C k = x.2 := fun k x hx => by rw [hP, hC]; simp [hx]
  rw [← fnd_EL hq P C hPC]
  have hS : ∀ i j, i ≤ j → j < (D.EL l).length → P i ≤ P j := fun i j hij hj => by
    have h1 := hPC i _ (List.getElem?_eq_getElem (by omega))
    have h2 := hPC j _ (List.getElem?_eq_getElem hj)
    rcases Nat.lt_or_eq_of_le hij with h | h
    · have := EL_sorted l i j h _ _ (List.getElem?_eq_getElem (by omega)) (List.getElem?_eq_getElem hj)
      omega
    · subst h; omega
  have hEn : 0 < (D.EL l).length → ∃ b off, a = some ⟨b, off, none⟩ ∧ b < w.heap.size ∧ Entries w b off (D.EL l).length P C := fun h0 => by
    obtain ⟨b, e1, e2, -⟩ := hE 0 _ (List.getElem?_eq_getElem h0)
    refine ⟨b, D.eo l * 2, e1, e2, fun k hk => ?_⟩
    obtain ⟨b', f1, f2, f3, f4⟩ := hE k _ (List.getElem?_eq_getElem hk)
    rw [e1] at f1
    cases f1
    have h1 := hPC k _ (List.getElem?_eq_getElem hk)
    rw [h1.1, h1.2, ← Nat.add_mul]
    exact ⟨f3, f4⟩
  by_cases h16 : (D.EL l).length ≤ 16
  · exact find_short a _ c P C q w h16 hEn hS
  · obtain ⟨b, off, rfl, hb, hE'⟩ := hEn (by omega)
    exact find_long b off _ c P C q w (by omega) (by omega) hb hE' hS
def PD.clk (D : PD) (arB : Nat) : Array Value := #[ptr arB, .int .i32 0, .int .i32 D.ll, .int .i32 D.asp, .int .i32 D.asc, .int .i32 D.aAt]

set_option maxRecDepth 100000 in
theorem m21 (D : PD) (hD : D.Fine) (arB q cB : Nat) (hq : q < D.N) (w0 : World) (hC : CK D w0 arB) (hcB : w0.rowIs cB 58 6 (fun j => ((D.clk arB)[j]?).getD undef)) (a0 : Option Addr) (c0 : Nat) (hLv : ∀ l, l < D.ll → ∃ b, a0 = some ⟨b, 0, none⟩ ∧ b < w0.heap.size ∧ w0.cell? ⟨b, l * 2, none⟩ = some (.int .i32 (D.eo l)) ∧ w0.cell? ⟨b, l * 2 + 1, none⟩ = some (.int .i32 (D.eo (l + 1)))) (Q : Exit → Act → World → Prop) (K : Act → World → Prop) (hKK : ∀ a w, Kn 52 ((7, .bool (D.lkp q).2) :: (6, .int .i32 (D.lkp q).1) :: []) a → Below w0.heap.size w0 w → K a w) (a : Act) (w : World) (hK : Kn 52 ((32, .int .i64 (0 : Nat)) :: (31, .int .i64 D.ll) :: (30, .slice a0 D.ll c0) :: (7, .bool (D.lkN q 0).2) :: (6, .int .i32 (D.lkN q 0).1) :: (2, ptr cB) :: (1, .int .i32 q) :: []) a) (hb : Below w0.heap.size w0 w) :
    Code.wp Yba.prog (nav [1, 1, 1, 0, 1] (Yba.f21.body.getD .skip)) (Exit.then K Q) a w := by
  have hN := hD.N20
  have hll := hD.ll
  have heo := eo_bound hN D.ll
  refine loop_n K (fun n a w => ∃ l, l ≤ D.ll ∧ n = D.ll - l ∧ Kn 52 ((32, .int .i64 (l : Nat)) :: (31, .int .i64 D.ll) :: (30, .slice a0 D.ll c0) :: (7, .bool (D.lkN q l).2) :: (6, .int .i32 (D.lkN q l).1) :: (2, ptr cB) :: (1, .int .i32 q) :: []) a ∧ Below w0.heap.size w0 w) ⟨0, Nat.zero_le _, rfl, hK, hb⟩ ?_
  clear hK hb a w
  rintro n a w R ⟨l, hl, hn, hK, hb⟩ hR
  refine wp_seq ?_
  refine wp_region_lit ?_
  refine kl hK 33 rfl (by decide) rfl (fun ρ hρ => r_lss3 _ _ rfl (hρ _ _ rfl) (hρ _ _ rfl)) ?_
  clear hK a; intro a hK
  refine wpList_nil ?_
  show Code.wp Yba.prog _ _ _ _
  refine wp_seq ?_
  by_cases hll2 : l < D.ll
  · obtain ⟨b, ha, hlt, k0, k1⟩ := hLv l hll2
    subst ha
    replace k0 := (hb.cell (p := ⟨b, l * 2, none⟩) hlt).trans k0
    replace k1 := (hb.cell (p := ⟨b, l * 2 + 1, none⟩) hlt).trans k1
    have hle1 := eo_le (D := D) (show l ≤ l + 1 by omega)
    have hle2 := eo_le (D := D) (show l + 1 ≤ D.ll by omega)
    refine wp_cond_true (by rw [hK.rho (.tmp 33) _ rfl]; exact congrArg Value.bool (decide_eq_true (by omega))) ?_
    refine wp_skip ?_
    show Code.wp Yba.prog _ _ _ _
    refine wp_seq ?_
    refine wp_block ?_
    refine wp_seq ?_
    refine wp_region_lit ?_
    refine kl hK 34 rfl (by decide) rfl (fun ρ hρ => r_ix32z _ _ rfl hll2 (hρ _ _ rfl) (hρ _ _ rfl)) ?_
    clear hK a; intro a hK
    refine kl hK 35 rfl (by decide) rfl (fun ρ hρ => r_ld40 _ rfl (hρ _ _ rfl) k0 k1) ?_
    clear hK a; intro a hK
    refine kl hK 9 rfl (by decide) rfl (fun ρ hρ => r_al40 rfl) ?_
    clear hK a; intro a hK
    refine kst hK rfl rfl (fun ρ hρ => r_st40 (w := w) _ _ rfl (hρ _ _ rfl) (hρ _ _ rfl)) ?_
    refine wpList_nil ?_
    show Code.wp Yba.prog _ _ _ _
    have n0 := cell_new w #[.int .i32 (D.eo l), .int .i32 (D.eo (l + 1))] 40 (i := 0) rfl
    have n1 := cell_new w #[.int .i32 (D.eo l), .int .i32 (D.eo (l + 1))] 40 (i := 1) rfl
    have hb1 := bel_alloc hb (.cells #[.int .i32 (D.eo l), .int .i32 (D.eo (l + 1))] 40)
    generalize w.alloc (.cells #[.int .i32 (D.eo l), .int .i32 (D.eo (l + 1))] 40) = w1 at *
    generalize w.heap.size = lB at *
    have hC1 := hC.below hb1
    have d0 : w1.cell? ⟨cB, 0, none⟩ = some (ptr arB) := (hb1.cell (p := ⟨cB, 0, none⟩) hcB.lt).trans (hcB.cell (i := 0) (by omega))
    obtain ⟨ea, ec, e1, e2, e3, e4, e5⟩ := hC1.ent
    refine wp_seq ?_
    refine wp_region_lit ?_
    refine kl hK 37 rfl (by decide) rfl (fun ρ hρ => r_fo58_0 _ rfl (hρ _ _ rfl)) ?_
    clear hK a; intro a hK
    refine kl hK 38 rfl (by decide) rfl (fun ρ hρ => r_ld51 _ rfl (hρ _ _ rfl) d0) ?_
    clear hK a; intro a hK
    refine kl hK 39 rfl (by decide) rfl (fun ρ hρ => r_ld40z _ rfl (hρ _ _ rfl) n0 n1) ?_
    clear hK a; intro a hK
    refine kc hK 40 rfl (by decide) rfl (fun ρ hρ => r_call23 _ _ rfl (hρ _ _ rfl) (hρ _ _ rfl) (hρ _ _ rfl)) (run_gen arB ea (D.eo D.ll) ec (D.eo l) (D.eo (l + 1)) w1 hC1.lt hC1.u0 e1 e4 hle1 hle2 e2 e3 (by omega)) ?_
    rintro e w2 ⟨⟨a', c', rfl, ha'⟩, hb2⟩
    have hfl : ∀ k e, (D.EL l)[k]? = some e → ∃ b, a' = some ⟨b, D.eo l * 2, none⟩ ∧ b < w2.heap.size ∧ w2.cell? ⟨b, (D.eo l + k) * 2, none⟩ = some (.int .i32 e.1) ∧ w2.cell? ⟨b, (D.eo l + k) * 2 + 1, none⟩ = some (.int .i32 e.2) := fun k e he => by
      have hk : k < (D.EL l).length := (List.getElem?_eq_some_iff.1 he).1
      obtain ⟨b, f1, f2, f3, f4⟩ := e5 (D.eo l + k) e ((ent_at hll2 hk).trans he)
      obtain ⟨b', g1, g2⟩ := ha' (by rw [eo_succ]; omega)
      rw [f1] at g1
      cases g1
      exact ⟨b, g2, Nat.lt_of_lt_of_le f2 hb2.size, (hb2.cell (p := ⟨b, (D.eo l + k) * 2, none⟩) f2).trans f3, (hb2.cell (p := ⟨b, (D.eo l + k) * 2 + 1, none⟩) f2).trans f4⟩
    refine ⟨_, rfl, ?_⟩
    clear hK a; intro a hK
    refine kl hK 41 rfl (by decide) rfl (fun ρ hρ => r_mv _ rfl (hρ _ _ rfl)) ?_
    clear hK a; intro a hK
    rw [show D.eo (l + 1) - D.eo l = (D.EL l).length by rw [eo_succ]; omega] at hK
    refine kc hK 42 rfl (by decide) rfl (fun ρ hρ => r_call16 _ _ rfl (hρ _ _ rfl) (hρ _ _ rfl) (hρ _ _ rfl)) (find_lvl D hD l q hq a' c' w2 hfl) ?_
    rintro e w3 ⟨rfl, hb3⟩
    refine ⟨_, rfl, ?_⟩
    clear hK a; intro a hK
    refine kl hK 36 rfl (by decide) rfl (fun ρ hρ => r_mv _ rfl (hρ _ _ rfl)) ?_
    clear hK a; intro a hK
    refine kl hK 43 rfl (by decide) rfl (fun ρ hρ => r_ext _ 0 rfl (hρ _ _ rfl) rfl) ?_
    clear hK a; intro a hK
    refine kl hK 44 rfl (by decide) rfl (fun ρ hρ => r_ext _ 1 rfl (hρ _ _ rfl) rfl) ?_
    clear hK a; intro a hK
    refine kl hK 10 rfl (by decide) rfl (fun ρ hρ => r_as _ rfl (hρ _ _ rfl)) ?_
    clear hK a; intro a hK
    refine kl hK 11 rfl (by decide) rfl (fun ρ hρ => r_as _ rfl (hρ _ _ rfl)) ?_
    clear hK a; intro a hK
    refine wpList_nil ?_
    show Code.wp Yba.prog _ _ _ _
    have hb4 := bel_trans hb1 (bel_trans hb2 hb3)
    refine wp_seq ?_
    refine wp_region_lit ?_
    refine kl hK 45 rfl (by decide) rfl (fun ρ hρ => r_mv _ rfl (hρ _ _ rfl)) ?_
    clear hK a; intro a hK
    refine wpList_nil ?_
    show Code.wp Yba.prog _ _ _ _
    by_cases hbt : D.bit l q = true
    · have hnx : D.lkN q (l + 1) = (mx (D.lkN q l).1 (D.cnt l q), true) := if_pos hbt
      rw [if_pos hbt] at hK
      refine wp_cond_true (hK.rho (.tmp 45) _ rfl) ?_
      refine wp_region_lit ?_
      refine kl hK 46 rfl (by decide) rfl (fun ρ hρ => r_mv _ rfl (hρ _ _ rfl)) ?_
      clear hK a; intro a hK
      refine kl hK 47 rfl (by decide) rfl (fun ρ hρ => r_mv _ rfl (hρ _ _ rfl)) ?_
      clear hK a; intro a hK
      refine kl hK 48 rfl (by decide) rfl (fun ρ hρ => r_max21 _ _ rfl (hρ _ _ rfl) (hρ _ _ rfl)) ?_
      clear hK a; intro a hK
      refine kl hK 6 rfl (by decide) rfl (fun ρ hρ => r_as _ rfl (hρ _ _ rfl)) ?_
      clear hK a; intro a hK
      refine kl hK 7 rfl (by decide) rfl (fun ρ hρ => r_as _ rfl (hρ _ _ rfl)) ?_
      clear hK a; intro a hK
      refine wpList_nil ?_
      show Code.wp Yba.prog _ _ _ _
      refine wp_region_lit ?_
      refine kl hK 49 rfl (by decide) rfl (fun ρ hρ => r_inc3 _ rfl (by omega) (hρ _ _ rfl) (hρ _ _ rfl)) ?_
      clear hK a; intro a hK
      refine kl hK 32 rfl (by decide) rfl (fun ρ hρ => r_mv _ rfl (hρ _ _ rfl)) ?_
      clear hK a; intro a hK
      refine wpList_nil ?_
      exact hR (D.ll - (l + 1)) _ _ (by omega) ⟨l + 1, hll2, rfl, hK.sub ⟨rfl, rfl, rfl, by rw [hnx]; rfl, by rw [hnx]; rfl, rfl, rfl, trivial⟩, hb4⟩
    · have hnx : D.lkN q (l + 1) = D.lkN q l := if_neg hbt
      rw [if_neg hbt] at hK
      refine wp_cond_false (hK.rho (.tmp 45) _ rfl) ?_
      refine wp_skip ?_
      show Code.wp Yba.prog _ _ _ _
      refine wp_region_lit ?_
      refine kl hK 49 rfl (by decide) rfl (fun ρ hρ => r_inc3 _ rfl (by omega) (hρ _ _ rfl) (hρ _ _ rfl)) ?_
      clear hK a; intro a hK
      refine kl hK 32 rfl (by decide) rfl (fun ρ hρ => r_mv _ rfl (hρ _ _ rfl)) ?_
      clear hK a; intro a hK
      refine wpList_nil ?_
      exact hR (D.ll - (l + 1)) _ _ (by omega) ⟨l + 1, hll2, rfl, hK.sub ⟨rfl, rfl, rfl, by rw [hnx]; rfl, by rw [hnx]; rfl, rfl, rfl, trivial⟩, hb4⟩
  · have hle : l = D.ll := by omega
    refine wp_cond_false (by rw [hK.rho (.tmp 33) _ rfl]; exact congrArg Value.bool (decide_eq_false (by omega))) ?_
    refine wp_exit ?_
    subst hle
    exact hKK _ _ (hK.sub ⟨rfl, rfl, trivial⟩) hb

theorem clk_new (D : PD) (arB : Nat) (w : World) : (w.alloc (.cells (D.clk arB) 58)).rowIs w.heap.size 58 6 (fun j => ((D.clk arB)[j]?).getD undef) :=
  World.rowIs_alloc w (D.clk arB) 58 _ fun i hi => by rw [Array.getElem?_eq_getElem hi]; rfl
set_option maxRecDepth 100000 in
theorem clookup_any (D : PD) (hD : D.Fine) (arB q : Nat) (hq : q < D.N) (w : World) (hC : CK D w arB) :
    Calls Yba.prog 21 #[.agg (D.clk arB), .int .i32 q] w fun e w' => e = .returned (.tuple #[.int .i32 (D.lkp q).1, .bool (D.lkp q).2]) ∧ Below w.heap.size w w' := by
  refine calls_of_wp (c := Yba.f21.body.getD .skip) Yba.func21 (by kernel_rfl) ?_
  rw [Yba.ntmps21]
  have hK := kn_call [.agg (D.clk arB), .int .i32 q] 52 (L := [(1, .int .i32 q), (0, .agg (D.clk arB))]) ⟨rfl, rfl, trivial⟩ (by simp)
  generalize ({ tmps := [Value.agg (D.clk arB), .int .i32 q].toArray ++ Array.replicate (52 - [Value.agg (D.clk arB), .int .i32 q].toArray.size) undef, defers := [] } : Act) = a at *
  have hN := hD.N20
  have hll := hD.ll
  have hb1 := bel_alloc (Below.refl w.heap.size w) (.cells (D.clk arB) 58)
  have r1 := clk_new D arB w
  have hC1 := hC.below hb1
  have hsz : w.heap.size < (w.alloc (.cells (D.clk arB) 58)).heap.size := r1.lt
  conv => arg 2; whnf
  refine wp_seq ?_
  refine wp_region_lit ?_
  refine kl hK 2 rfl (by decide) rfl (fun ρ hρ => r_box58 _ rfl (hρ _ _ rfl)) ?_
  clear hK a; intro a hK
  refine kl hK 4 rfl (by decide) rfl (fun ρ hρ => r_as _ rfl (hρ _ _ rfl)) ?_
  clear hK a; intro a hK
  refine kl hK 5 rfl (by decide) rfl (fun ρ hρ => r_as _ rfl (hρ _ _ rfl)) ?_
  clear hK a; intro a hK
  refine wpList_nil ?_
  show Code.wp Yba.prog _ _ _ _
  generalize hw1 : w.alloc (.cells (D.clk arB) 58) = w1 at *
  clear hw1
  have d0 : w1.cell? ⟨w.heap.size, 0, none⟩ = some (ptr arB) := r1.cell (i := 0) (by omega)
  have d1 : w1.cell? ⟨w.heap.size, 1, none⟩ = some (.int .i32 ((0 : Nat) : Int)) := r1.cell (i := 1) (by omega)
  have d2 : w1.cell? ⟨w.heap.size, 2, none⟩ = some (.int .i32 D.ll) := r1.cell (i := 2) (by omega)
  have d3 : w1.cell? ⟨w.heap.size, 3, none⟩ = some (.int .i32 D.asp) := r1.cell (i := 3) (by omega)
  have d4 : w1.cell? ⟨w.heap.size, 4, none⟩ = some (.int .i32 D.asc) := r1.cell (i := 4) (by omega)
  have tail : ∀ a, Kn 52 ((7, .bool (D.lkN q 0).2) :: (6, .int .i32 (D.lkN q 0).1) :: (2, ptr w.heap.size) :: (1, .int .i32 q) :: []) a → Code.wp Yba.prog (nav [1, 1, 1] (Yba.f21.body.getD .skip)) (bodyPost Yba.prog Yba.f21 fun e w' => e = .returned (.tuple #[.int .i32 (D.lkp q).1, .bool (D.lkp q).2]) ∧ Below w.heap.size w w') a w1 := by
    clear hK a
    intro a hK
    obtain ⟨la, lc, l1, l2, l3, l4, l5⟩ := hC1.lev
    conv => arg 2; whnf
    refine wp_seq ?_
    refine wp_seq ?_
    refine wp_region_lit ?_
    refine kl hK 26 rfl (by decide) rfl (fun ρ hρ => r_fo58_0 _ rfl (hρ _ _ rfl)) ?_
    clear hK a; intro a hK
    refine kl hK 27 rfl (by decide) rfl (fun ρ hρ => r_ld51 _ rfl (hρ _ _ rfl) d0) ?_
    clear hK a; intro a hK
    refine kl hK 28 rfl (by decide) rfl (fun ρ hρ => r_fo58_1 _ rfl (hρ _ _ rfl)) ?_
    clear hK a; intro a hK
    refine kl hK 29 rfl (by decide) rfl (fun ρ hρ => r_ld40 _ rfl (hρ _ _ rfl) d1 d2) ?_
    clear hK a; intro a hK
    refine kc hK 30 rfl (by decide) rfl (fun ρ hρ => r_call22 _ _ rfl (hρ _ _ rfl) (hρ _ _ rfl) (hρ _ _ rfl)) (list_gen arB la D.ll lc 0 D.ll w1 hC1.lt hC1.u1 l1 l4 (Nat.zero_le _) (Nat.le_refl _) l2 l3 (by omega)) ?_
    rintro e w2 ⟨⟨a', c', rfl, ha'⟩, hb2⟩
    refine ⟨_, rfl, ?_⟩
    clear hK a; intro a hK
    rw [Nat.sub_zero] at hK
    refine kl hK 31 rfl (by decide) rfl (fun ρ hρ => r_len32 _ rfl (hρ _ _ rfl)) ?_
    clear hK a; intro a hK
    refine kl hK 32 rfl (by decide) rfl (fun ρ hρ => r_mv _ rfl (hρ _ _ rfl)) ?_
    clear hK a; intro a hK
    refine wpList_nil ?_
    show Code.wp Yba.prog _ _ _ _
    have hlev : ∀ l, l < D.ll → ∃ b, a' = some ⟨b, 0, none⟩ ∧ b < w2.heap.size ∧ w2.cell? ⟨b, l * 2, none⟩ = some (.int .i32 (D.eo l)) ∧ w2.cell? ⟨b, l * 2 + 1, none⟩ = some (.int .i32 (D.eo (l + 1))) := fun l hl => by
      obtain ⟨b, f1, f2, f3, f4⟩ := l5 l hl
      obtain ⟨b', g1, g2⟩ := ha' (by omega)
      rw [f1] at g1
      cases g1
      exact ⟨b, by rw [g2, Nat.zero_mul], Nat.lt_of_lt_of_le f2 hb2.size, (hb2.cell (p := ⟨b, l * 2, none⟩) f2).trans f3, (hb2.cell (p := ⟨b, l * 2 + 1, none⟩) f2).trans f4⟩
    refine m21 D hD arB q w.heap.size hq w2 (hC1.below hb2) (r1.of_block (hb2.block _ hsz)) a' c' hlev _ _ ?_ a w2 (hK.sub ⟨rfl, rfl, rfl, rfl, rfl, rfl, rfl, trivial⟩) (Below.refl _ _)
    clear hK a
    intro a w' hK hb
    show Code.wp Yba.prog _ _ _ _
    refine wp_seq ?_
    refine wp_region_lit ?_
    refine kl hK 50 rfl (by decide) rfl (fun ρ hρ => r_mv _ rfl (hρ _ _ rfl)) ?_
    clear hK a; intro a hK
    refine kl hK 51 rfl (by decide) rfl (fun ρ hρ => r_mv _ rfl (hρ _ _ rfl)) ?_
    clear hK a; intro a hK
    refine kl hK 4 rfl (by decide) rfl (fun ρ hρ => r_as _ rfl (hρ _ _ rfl)) ?_
    clear hK a; intro a hK
    refine kl hK 5 rfl (by decide) rfl (fun ρ hρ => r_as _ rfl (hρ _ _ rfl)) ?_
    clear hK a; intro a hK
    refine wpList_nil ?_
    show Code.wp Yba.prog _ _ _ _
    refine wp_ret ?_
    exact kret2 (s := 4) (t := 5) hK rfl rfl rfl ⟨rfl, bel_trans hb1 (bel_trans hb2 hb)⟩
  refine wp_seq ?_
  refine wp_region_lit ?_
  refine kl hK 6 rfl (by decide) rfl (fun ρ hρ => r_as _ rfl (hρ _ _ rfl)) ?_
  clear hK a; intro a hK
  refine kl hK 7 rfl (by decide) rfl (fun ρ hρ => r_as _ rfl (hρ _ _ rfl)) ?_
  clear hK a; intro a hK
  refine wpList_nil ?_
  show Code.wp Yba.prog _ _ _ _
  refine wp_seq ?_
  refine wp_seq ?_
  replace hK := hK.sub (M := (7, .bool false) :: (6, .int .i32 0) :: (2, ptr w.heap.size) :: (1, .int .i32 q) :: []) ⟨rfl, rfl, rfl, rfl, trivial⟩
  by_cases h1 : (q : Int) = D.asp
  · by_cases h2 : 0 < D.asc
    · have hs : D.lkN q 0 = (D.asc, true) := if_pos ⟨by omega, h2⟩
      refine wp_region_lit ?_
      refine kl hK 12 rfl (by decide) rfl (fun ρ hρ => r_mv _ rfl (hρ _ _ rfl)) ?_
      clear hK a; intro a hK
      refine kl hK 13 rfl (by decide) rfl (fun ρ hρ => r_fo58_2 _ rfl (hρ _ _ rfl)) ?_
      clear hK a; intro a hK
      refine kl hK 14 rfl (by decide) rfl (fun ρ hρ => r_fa38_0 _ rfl (hρ _ _ rfl)) ?_
      clear hK a; intro a hK
      refine kl hK 15 rfl (by decide) rfl (fun ρ hρ => r_ld21 _ rfl (hρ _ _ rfl) d3) ?_
      clear hK a; intro a hK
      refine kl hK 16 rfl (by decide) rfl (fun ρ hρ => r_eql21 _ _ rfl (hρ _ _ rfl) (hρ _ _ rfl)) ?_
      clear hK a; intro a hK
      refine kl hK 17 rfl (by decide) rfl (fun ρ hρ => r_mv _ rfl (hρ _ _ rfl)) ?_
      clear hK a; intro a hK
      refine klg hK 18 5 17 rfl (by decide) rfl (by kernel_rfl) rfl (decide_eq_true h1) (fun ρ hρ => r_fo58_2 _ rfl (hρ _ _ rfl)) ?_
      clear hK a; intro a hK
      refine klg hK 19 5 17 rfl (by decide) rfl (by kernel_rfl) rfl (decide_eq_true h1) (fun ρ hρ => r_fa38_1 _ rfl (hρ _ _ rfl)) ?_
      clear hK a; intro a hK
      refine klg hK 20 5 17 rfl (by decide) rfl (by kernel_rfl) rfl (decide_eq_true h1) (fun ρ hρ => r_ld21 _ rfl (hρ _ _ rfl) d4) ?_
      clear hK a; intro a hK
      refine klg hK 21 5 17 rfl (by decide) rfl (by kernel_rfl) rfl (decide_eq_true h1) (fun ρ hρ => r_gtr21 _ _ rfl (hρ _ _ rfl) (hρ _ _ rfl)) ?_
      clear hK a; intro a hK
      refine kl hK 22 rfl (by decide) rfl (fun ρ hρ => r_pickT _ _ _ rfl (decide_eq_true h1) (hρ _ _ rfl) (hρ _ _ rfl)) ?_
      clear hK a; intro a hK
      refine wpList_nil ?_
      show Code.wp Yba.prog _ _ _ _
      refine wp_cond_true (by rw [hK.rho (.tmp 22) _ rfl]; exact congrArg Value.bool (decide_eq_true h2)) ?_
      refine wp_region_lit ?_
      refine kl hK 23 rfl (by decide) rfl (fun ρ hρ => r_fo58_2 _ rfl (hρ _ _ rfl)) ?_
      clear hK a; intro a hK
      refine kl hK 24 rfl (by decide) rfl (fun ρ hρ => r_fa38_1 _ rfl (hρ _ _ rfl)) ?_
      clear hK a; intro a hK
      refine kl hK 25 rfl (by decide) rfl (fun ρ hρ => r_ld21 _ rfl (hρ _ _ rfl) d4) ?_
      clear hK a; intro a hK
      refine kl hK 6 rfl (by decide) rfl (fun ρ hρ => r_as _ rfl (hρ _ _ rfl)) ?_
      clear hK a; intro a hK
      refine kl hK 7 rfl (by decide) rfl (fun ρ hρ => r_as _ rfl (hρ _ _ rfl)) ?_
      clear hK a; intro a hK
      refine wpList_nil ?_
      show Code.wp Yba.prog _ _ _ _
      exact tail _ (hK.sub ⟨by rw [hs]; rfl, by rw [hs]; rfl, rfl, rfl, trivial⟩)
    · have hs : D.lkN q 0 = (0, false) := if_neg (fun h => h2 h.2)
      refine wp_region_lit ?_
      refine kl hK 12 rfl (by decide) rfl (fun ρ hρ => r_mv _ rfl (hρ _ _ rfl)) ?_
      clear hK a; intro a hK
      refine kl hK 13 rfl (by decide) rfl (fun ρ hρ => r_fo58_2 _ rfl (hρ _ _ rfl)) ?_
      clear hK a; intro a hK
      refine kl hK 14 rfl (by decide) rfl (fun ρ hρ => r_fa38_0 _ rfl (hρ _ _ rfl)) ?_
      clear hK a; intro a hK
      refine kl hK 15 rfl (by decide) rfl (fun ρ hρ => r_ld21 _ rfl (hρ _ _ rfl) d3) ?_
      clear hK a; intro a hK
      refine kl hK 16 rfl (by decide) rfl (fun ρ hρ => r_eql21 _ _ rfl (hρ _ _ rfl) (hρ _ _ rfl)) ?_
      clear hK a; intro a hK
      refine kl hK 17 rfl (by decide) rfl (fun ρ hρ => r_mv _ rfl (hρ _ _ rfl)) ?_
      clear hK a; intro a hK
      refine klg hK 18 5 17 rfl (by decide) rfl (by kernel_rfl) rfl (decide_eq_true h1) (fun ρ hρ => r_fo58_2 _ rfl (hρ _ _ rfl)) ?_
      clear hK a; intro a hK
      refine klg hK 19 5 17 rfl (by decide) rfl (by kernel_rfl) rfl (decide_eq_true h1) (fun ρ hρ => r_fa38_1 _ rfl (hρ _ _ rfl)) ?_
      clear hK a; intro a hK
      refine klg hK 20 5 17 rfl (by decide) rfl (by kernel_rfl) rfl (decide_eq_true h1) (fun ρ hρ => r_ld21 _ rfl (hρ _ _ rfl) d4) ?_
      clear hK a; intro a hK
      refine klg hK 21 5 17 rfl (by decide) rfl (by kernel_rfl) rfl (decide_eq_true h1) (fun ρ hρ => r_gtr21 _ _ rfl (hρ _ _ rfl) (hρ _ _ rfl)) ?_
      clear hK a; intro a hK
      refine kl hK 22 rfl (by decide) rfl (fun ρ hρ => r_pickT _ _ _ rfl (decide_eq_true h1) (hρ _ _ rfl) (hρ _ _ rfl)) ?_
      clear hK a; intro a hK
      refine wpList_nil ?_
      show Code.wp Yba.prog _ _ _ _
      refine wp_cond_false (by rw [hK.rho (.tmp 22) _ rfl]; exact congrArg Value.bool (decide_eq_false h2)) ?_
      refine wp_skip ?_
      show Code.wp Yba.prog _ _ _ _
      exact tail _ (hK.sub ⟨by rw [hs]; rfl, by rw [hs]; rfl, rfl, rfl, trivial⟩)
  · have hs : D.lkN q 0 = (0, false) := if_neg (fun h => h1 (by omega))
    refine wp_region_lit ?_
    refine kl hK 12 rfl (by decide) rfl (fun ρ hρ => r_mv _ rfl (hρ _ _ rfl)) ?_
    clear hK a; intro a hK
    refine kl hK 13 rfl (by decide) rfl (fun ρ hρ => r_fo58_2 _ rfl (hρ _ _ rfl)) ?_
    clear hK a; intro a hK
    refine kl hK 14 rfl (by decide) rfl (fun ρ hρ => r_fa38_0 _ rfl (hρ _ _ rfl)) ?_
    clear hK a; intro a hK
    refine kl hK 15 rfl (by decide) rfl (fun ρ hρ => r_ld21 _ rfl (hρ _ _ rfl) d3) ?_
    clear hK a; intro a hK
    refine kl hK 16 rfl (by decide) rfl (fun ρ hρ => r_eql21 _ _ rfl (hρ _ _ rfl) (hρ _ _ rfl)) ?_
    clear hK a; intro a hK
    refine kl hK 17 rfl (by decide) rfl (fun ρ hρ => r_mv _ rfl (hρ _ _ rfl)) ?_
    clear hK a; intro a hK
    refine klu hK 18 5 17 rfl (by decide) rfl (by kernel_rfl) rfl (decide_eq_false h1) ?_
    clear hK a; intro a hK
    refine klu hK 19 5 17 rfl (by decide) rfl (by kernel_rfl) rfl (decide_eq_false h1) ?_
    clear hK a; intro a hK
    refine klu hK 20 5 17 rfl (by decide) rfl (by kernel_rfl) rfl (decide_eq_false h1) ?_
    clear hK a; intro a hK
    refine klu hK 21 5 17 rfl (by decide) rfl (by kernel_rfl) rfl (decide_eq_false h1) ?_
    clear hK a; intro a hK
    refine kl hK 22 rfl (by decide) rfl (fun ρ hρ => r_pickE _ _ _ rfl (decide_eq_false h1) (hρ _ _ rfl) (hρ _ _ rfl)) ?_
    clear hK a; intro a hK
    refine wpList_nil ?_
    show Code.wp Yba.prog _ _ _ _
    refine wp_cond_false (hK.rho (.tmp 22) _ rfl) ?_
    refine wp_skip ?_
    show Code.wp Yba.prog _ _ _ _
    exact tail _ (hK.sub ⟨by rw [hs]; rfl, by rw [hs]; rfl, rfl, rfl, trivial⟩)
end Go.Proofs.Ybulkexuo
