import Derived.Test.YbulkexuoN10
namespace Go.Proofs.Ybulkexuo
open Go.RowKit
set_option linter.unusedSimpArgs false
set_option linter.unusedVariables false

/-- a slice whose cells are news: nil, or of some length -/
def SlIn (w : World) (size : Nat) (v : Value) (m : Nat) (news : List Value) : Prop :=
  (v = .slice none 0 0 ∧ m = 0 ∧ news = []) ∨ ∃ ad c, v = .slice (some ad) m c ∧ 0 < m ∧ news.length = m * size ∧ (∀ j u, news[j]? = some u → w.cell? (ad.add j) = some u) ∧ ∀ u ∈ news, u.oneCell' = true
theorem slIn_of_own {w : World} {base : Nat} {e : TypeId} {size : Nat} {v : Value} {m : Nat} {xs : List Value} (h : w.ownsRow base e size v m xs) (hne : v ≠ .slice none 0 0 → 0 < m) (h1 : ∀ u ∈ xs, u.oneCell' = true) : SlIn w size v m xs := by
  rcases own_slice h with ⟨h2, h3⟩ | ⟨g, cap, h2, -, -⟩
  · refine .inl ⟨h2, h3, ?_⟩
    have := h.1
    rw [h3, Nat.zero_mul] at this
    exact List.eq_nil_of_length_eq_zero this
  · refine .inr ⟨_, cap, h2, hne (by rw [h2]; simp), h.1, fun j u hu => h.cells (g := g) (by rw [h2]; rfl) j u hu, h1⟩
section
variable {ρ : Operand → Value} {o : Oper} {w : World}
theorem r_bs0_31 (ho : o.op = .buildSlice 31 0 #[]) : (execOp ρ o).run Yba.prog w = .ok (.value (.slice (some ⟨w.heap.size, 0, none⟩) 0 0)) (w.alloc (.cells #[] 38)) := by
  have u31 := Yba.underlying31
  have u38 := Yba.underlying38
  have u21 := Yba.underlying21
  unfold execOp; rw [ho]; simp only; go_simp
theorem r_bs0_32 (ho : o.op = .buildSlice 32 0 #[]) : (execOp ρ o).run Yba.prog w = .ok (.value (.slice (some ⟨w.heap.size, 0, none⟩) 0 0)) (w.alloc (.cells #[] 40)) := by
  have u32 := Yba.underlying32
  have u40 := Yba.underlying40
  have u21 := Yba.underlying21
  unfold execOp; rw [ho]; simp only; go_simp
theorem r_bs0_25 (ho : o.op = .buildSlice 25 0 #[]) : (execOp ρ o).run Yba.prog w = .ok (.value (.slice (some ⟨w.heap.size, 0, none⟩) 0 0)) (w.alloc (.cells #[] 27)) := by
  have u25 := Yba.underlying25
  have u27 := Yba.underlying27
  have u21 := Yba.underlying21
  unfold execOp; rw [ho]; simp only; go_simp
theorem r_bs0_41 (ho : o.op = .buildSlice 41 0 #[]) : (execOp ρ o).run Yba.prog w = .ok (.value (.slice (some ⟨w.heap.size, 0, none⟩) 0 0)) (w.alloc (.cells #[] 46)) := by
  have u41 := Yba.underlying41
  have u46 := Yba.underlying46
  have u21 := Yba.underlying21
  have u4 := Yba.underlying4
  unfold execOp; rw [ho]; simp only; go_simp
theorem r_same38 (x y : Operand) (ho : o.op = .binOp .neq 38 x y 38) {a b : Int} (h : ρ x = .agg #[.int .i32 a, .int .i32 b]) (h' : ρ y = .agg #[.int .i32 a, .int .i32 b]) : (execOp ρ o).run Yba.prog w = .ok (.value (.bool false)) w := by
  have hn : (binOp .neq 38 (.agg #[.int .i32 a, .int .i32 b]) (.agg #[.int .i32 a, .int .i32 b])).run Yba.prog w = .ok (.bool false) w := by
    have u3 := Yba.underlying21
    have hS : Yba.prog.underlying 38 = some (.struct (Yba.prog.fieldsOf 38)) := by kernel_rfl
    have hp : Yba.prog.stoodInHeld 38 = false := by kernel_rfl
    rw [run_neq_struct, show (10000 : Nat) = 9999 + 1 from rfl, run_equalIn_agg w 9999 38 _ _ hS hp]
    simp only [Program.fieldsOf, Yba.underlying38]
    go_simp
  unfold execOp; rw [ho]; simp only; go_simp
theorem r_same40 (x y : Operand) (ho : o.op = .binOp .neq 40 x y 40) {a b : Int} (h : ρ x = .agg #[.int .i32 a, .int .i32 b]) (h' : ρ y = .agg #[.int .i32 a, .int .i32 b]) : (execOp ρ o).run Yba.prog w = .ok (.value (.bool false)) w := by
  have hn : (binOp .neq 40 (.agg #[.int .i32 a, .int .i32 b]) (.agg #[.int .i32 a, .int .i32 b])).run Yba.prog w = .ok (.bool false) w := by
    have u3 := Yba.underlying21
    have hS : Yba.prog.underlying 40 = some (.struct (Yba.prog.fieldsOf 40)) := by kernel_rfl
    have hp : Yba.prog.stoodInHeld 40 = false := by kernel_rfl
    rw [run_neq_struct, show (10000 : Nat) = 9999 + 1 from rfl, run_equalIn_agg w 9999 40 _ _ hS hp]
    simp only [Program.fieldsOf, Yba.underlying40]
    go_simp
  unfold execOp; rw [ho]; simp only; go_simp
theorem r_same27 (x y : Operand) (ho : o.op = .binOp .neq 27 x y 27) {a b c d : Int} (h : ρ x = .agg #[.int .i32 a, .int .i32 b, .int .i32 c, .int .i32 d]) (h' : ρ y = .agg #[.int .i32 a, .int .i32 b, .int .i32 c, .int .i32 d]) : (execOp ρ o).run Yba.prog w = .ok (.value (.bool false)) w := by
  have hn : (binOp .neq 27 (.agg #[.int .i32 a, .int .i32 b, .int .i32 c, .int .i32 d]) (.agg #[.int .i32 a, .int .i32 b, .int .i32 c, .int .i32 d])).run Yba.prog w = .ok (.bool false) w := by
    have u3 := Yba.underlying21
    have hS : Yba.prog.underlying 27 = some (.struct (Yba.prog.fieldsOf 27)) := by kernel_rfl
    have hp : Yba.prog.stoodInHeld 27 = false := by kernel_rfl
    rw [run_neq_struct, show (10000 : Nat) = 9999 + 1 from rfl, run_equalIn_agg w 9999 27 _ _ hS hp]
    simp only [Program.fieldsOf, Yba.underlying27]
    go_simp
  unfold execOp; rw [ho]; simp only; go_simp
theorem r_same46 (x y : Operand) (ho : o.op = .binOp .neq 46 x y 46) {a b c : Int} {d : Bool} (h : ρ x = .agg #[.int .i32 a, .int .i32 b, .int .i32 c, .bool d]) (h' : ρ y = .agg #[.int .i32 a, .int .i32 b, .int .i32 c, .bool d]) : (execOp ρ o).run Yba.prog w = .ok (.value (.bool false)) w := by
  have hn : (binOp .neq 46 (.agg #[.int .i32 a, .int .i32 b, .int .i32 c, .bool d]) (.agg #[.int .i32 a, .int .i32 b, .int .i32 c, .bool d])).run Yba.prog w = .ok (.bool false) w := by
    have u3 := Yba.underlying21
    have u4 := Yba.underlying4
    have hS : Yba.prog.underlying 46 = some (.struct (Yba.prog.fieldsOf 46)) := by kernel_rfl
    have hp : Yba.prog.stoodInHeld 46 = false := by kernel_rfl
    rw [run_neq_struct, show (10000 : Nat) = 9999 + 1 from rfl, run_equalIn_agg w 9999 46 _ _ hS hp]
    simp only [Program.fieldsOf, Yba.underlying46]
    go_simp
  unfold execOp; rw [ho]; simp only; go_simp
end

set_option maxRecDepth 100000 in
set_option maxHeartbeats 1000000 in
theorem clone5 (v : Value) (m : Nat) (hm : m ≤ 100000) (news : List Value) (w0 : World) (hin : SlIn w0 2 v m news) :
    Calls Yba.prog 5 #[v] w0 fun e w' => ∃ v', e = .returned v' ∧ w'.ownsRow w0.heap.size 38 2 v' m news ∧ (v' = .slice none 0 0 ↔ v = .slice none 0 0) ∧ Below w0.heap.size w0 w' := by
  refine calls_of_wp (c := Yba.f5.body.getD .skip) Yba.func5 (by kernel_rfl) ?_
  rw [Yba.ntmps5]
  have hK := kn_call [v] 8 (L := [(0, v)]) ⟨rfl, trivial⟩ (by simp)
  generalize ({ tmps := [v].toArray ++ Array.replicate (8 - [v].toArray.size) undef, defers := [] } : Act) = a at *
  conv => arg 2; whnf
  refine wp_seq ?_
  refine wp_region_lit ?_
  refine kl hK 2 rfl (by decide) rfl (fun ρ hρ => r_as _ rfl (hρ _ _ rfl)) ?_
  clear hK a; intro a hK
  refine wpList_nil ?_
  show Code.wp Yba.prog _ _ _ _
  refine wp_seq ?_
  refine wp_seq ?_
  rcases hin with ⟨rfl, rfl, rfl⟩ | ⟨ad, c, rfl, h0, hl, hnews, h1⟩
  · skip
    refine wp_region_lit ?_
    refine kl hK 3 rfl (by decide) rfl (fun ρ hρ => r_mv _ rfl (hρ _ _ rfl)) ?_
    clear hK a; intro a hK
    refine kl hK 4 rfl (by decide) rfl (fun ρ hρ => r_isnil 31 38 Yba.underlying31 _ rfl (hρ _ _ rfl) (hρ _ _ rfl)) ?_
    clear hK a; intro a hK
    refine wpList_nil ?_
    show Code.wp Yba.prog _ _ _ _
    refine wp_cond_true (hK.rho (.tmp 4) _ rfl) ?_
    refine wp_seq ?_
    refine wp_region_lit ?_
    refine kl hK 2 rfl (by decide) rfl (fun ρ hρ => r_as _ rfl (hρ _ _ rfl)) ?_
    clear hK a; intro a hK
    refine wpList_nil ?_
    show Code.wp Yba.prog _ _ _ _
    refine wp_ret ?_
    try simp only [Exit.inBlock, Exit.then]
    exact kret1 (s := 2) hK rfl rfl ⟨_, rfl, World.ownsRow_nil _ _ _ _, (by first | exact Iff.rfl | exact ⟨fun _ => trivial, fun _ => rfl⟩), Below.refl _ _⟩
  · skip
    refine wp_region_lit ?_
    refine kl hK 3 rfl (by decide) rfl (fun ρ hρ => r_mv _ rfl (hρ _ _ rfl)) ?_
    clear hK a; intro a hK
    refine kl hK 4 rfl (by decide) rfl (fun ρ hρ => r_notnil 31 38 Yba.underlying31 _ rfl (hρ _ _ rfl) (hρ _ _ rfl)) ?_
    clear hK a; intro a hK
    refine wpList_nil ?_
    show Code.wp Yba.prog _ _ _ _
    refine wp_cond_false (hK.rho (.tmp 4) _ rfl) ?_
    refine wp_skip ?_
    show Code.wp Yba.prog _ _ _ _
    refine wp_seq ?_
    refine wp_region_lit ?_
    refine kl hK 5 rfl (by decide) rfl (fun ρ hρ => r_bs0_31 rfl) ?_
    clear hK a; intro a hK
    refine kl hK 6 rfl (by decide) rfl (fun ρ hρ => r_mv _ rfl (hρ _ _ rfl)) ?_
    clear hK a; intro a hK
    have hs1 := alloc_size w0 (.cells #[] 38)
    have hown : (w0.alloc (.cells #[] 38)).ownsRow w0.heap.size 38 2 (.slice (some ⟨w0.heap.size, 0, none⟩) 0 0) 0 [] := ⟨rfl, .inr ⟨w0.heap.size, 0, #[], rfl, Nat.le_refl _, Go.Deep.blk_alloc_new _ _, Nat.le_refl _, Nat.zero_le _, rfl, rfl⟩⟩
    have hb1 := bel_alloc (Below.refl w0.heap.size w0) (.cells #[] 38)
    have hnews1 : ∀ j u, news[j]? = some u → (w0.alloc (.cells #[] 38)).cell? (ad.add j) = some u := fun j u hu => by
      have h2 := hnews j u hu
      have hlt : (ad.add j).block < w0.heap.size := World.block_lt_of_cell? w0 _ h2
      exact (hb1.cell hlt).trans h2
    refine kapp hK 7 5 6 31 rfl (by decide) rfl rfl w0.heap.size Yba.underlying31 info38' rfl (by decide) (by decide) rfl rfl hown hl hnews1 h1 h0 (by omega) (by omega) ?_
    intro g cap w2 hown2 hgr hat hgl
    clear hK a; intro a hK
    refine kl hK 2 rfl (by decide) rfl (fun ρ hρ => r_as _ rfl (hρ _ _ rfl)) ?_
    clear hK a; intro a hK
    refine wpList_nil ?_
    show Code.wp Yba.prog _ _ _ _
    refine wp_ret ?_
    rw [Nat.zero_add] at hK hown2
    exact kret1 (s := 2) hK rfl rfl ⟨_, rfl, hown2, ⟨fun h => (by cases h), fun h => (by cases h)⟩, hb1.grown hgr (by omega) fun k hk => by cases hk; exact Nat.le_refl _⟩

set_option maxRecDepth 100000 in
set_option maxHeartbeats 1000000 in
theorem clone6 (v : Value) (m : Nat) (hm : m ≤ 100000) (news : List Value) (w0 : World) (hin : SlIn w0 2 v m news) :
    Calls Yba.prog 6 #[v] w0 fun e w' => ∃ v', e = .returned v' ∧ w'.ownsRow w0.heap.size 40 2 v' m news ∧ (v' = .slice none 0 0 ↔ v = .slice none 0 0) ∧ Below w0.heap.size w0 w' := by
  refine calls_of_wp (c := Yba.f6.body.getD .skip) Yba.func6 (by kernel_rfl) ?_
  rw [Yba.ntmps6]
  have hK := kn_call [v] 8 (L := [(0, v)]) ⟨rfl, trivial⟩ (by simp)
  generalize ({ tmps := [v].toArray ++ Array.replicate (8 - [v].toArray.size) undef, defers := [] } : Act) = a at *
  conv => arg 2; whnf
  refine wp_seq ?_
  refine wp_region_lit ?_
  refine kl hK 2 rfl (by decide) rfl (fun ρ hρ => r_as _ rfl (hρ _ _ rfl)) ?_
  clear hK a; intro a hK
  refine wpList_nil ?_
  show Code.wp Yba.prog _ _ _ _
  refine wp_seq ?_
  refine wp_seq ?_
  rcases hin with ⟨rfl, rfl, rfl⟩ | ⟨ad, c, rfl, h0, hl, hnews, h1⟩
  · skip
    refine wp_region_lit ?_
    refine kl hK 3 rfl (by decide) rfl (fun ρ hρ => r_mv _ rfl (hρ _ _ rfl)) ?_
    clear hK a; intro a hK
    refine kl hK 4 rfl (by decide) rfl (fun ρ hρ => r_isnil 32 40 Yba.underlying32 _ rfl (hρ _ _ rfl) (hρ _ _ rfl)) ?_
    clear hK a; intro a hK
    refine wpList_nil ?_
    show Code.wp Yba.prog _ _ _ _
    refine wp_cond_true (hK.rho (.tmp 4) _ rfl) ?_
    refine wp_seq ?_
    refine wp_region_lit ?_
    refine kl hK 2 rfl (by decide) rfl (fun ρ hρ => r_as _ rfl (hρ _ _ rfl)) ?_
    clear hK a; intro a hK
    refine wpList_nil ?_
    show Code.wp Yba.prog _ _ _ _
    refine wp_ret ?_
    try simp only [Exit.inBlock, Exit.then]
    exact kret1 (s := 2) hK rfl rfl ⟨_, rfl, World.ownsRow_nil _ _ _ _, (by first | exact Iff.rfl | exact ⟨fun _ => trivial, fun _ => rfl⟩), Below.refl _ _⟩
  · skip
    refine wp_region_lit ?_
    refine kl hK 3 rfl (by decide) rfl (fun ρ hρ => r_mv _ rfl (hρ _ _ rfl)) ?_
    clear hK a; intro a hK
    refine kl hK 4 rfl (by decide) rfl (fun ρ hρ => r_notnil 32 40 Yba.underlying32 _ rfl (hρ _ _ rfl) (hρ _ _ rfl)) ?_
    clear hK a; intro a hK
    refine wpList_nil ?_
    show Code.wp Yba.prog _ _ _ _
    refine wp_cond_false (hK.rho (.tmp 4) _ rfl) ?_
    refine wp_skip ?_
    show Code.wp Yba.prog _ _ _ _
    refine wp_seq ?_
    refine wp_region_lit ?_
    refine kl hK 5 rfl (by decide) rfl (fun ρ hρ => r_bs0_32 rfl) ?_
    clear hK a; intro a hK
    refine kl hK 6 rfl (by decide) rfl (fun ρ hρ => r_mv _ rfl (hρ _ _ rfl)) ?_
    clear hK a; intro a hK
    have hs1 := alloc_size w0 (.cells #[] 40)
    have hown : (w0.alloc (.cells #[] 40)).ownsRow w0.heap.size 40 2 (.slice (some ⟨w0.heap.size, 0, none⟩) 0 0) 0 [] := ⟨rfl, .inr ⟨w0.heap.size, 0, #[], rfl, Nat.le_refl _, Go.Deep.blk_alloc_new _ _, Nat.le_refl _, Nat.zero_le _, rfl, rfl⟩⟩
    have hb1 := bel_alloc (Below.refl w0.heap.size w0) (.cells #[] 40)
    have hnews1 : ∀ j u, news[j]? = some u → (w0.alloc (.cells #[] 40)).cell? (ad.add j) = some u := fun j u hu => by
      have h2 := hnews j u hu
      have hlt : (ad.add j).block < w0.heap.size := World.block_lt_of_cell? w0 _ h2
      exact (hb1.cell hlt).trans h2
    refine kapp hK 7 5 6 32 rfl (by decide) rfl rfl w0.heap.size Yba.underlying32 info40' rfl (by decide) (by decide) rfl rfl hown hl hnews1 h1 h0 (by omega) (by omega) ?_
    intro g cap w2 hown2 hgr hat hgl
    clear hK a; intro a hK
    refine kl hK 2 rfl (by decide) rfl (fun ρ hρ => r_as _ rfl (hρ _ _ rfl)) ?_
    clear hK a; intro a hK
    refine wpList_nil ?_
    show Code.wp Yba.prog _ _ _ _
    refine wp_ret ?_
    rw [Nat.zero_add] at hK hown2
    exact kret1 (s := 2) hK rfl rfl ⟨_, rfl, hown2, ⟨fun h => (by cases h), fun h => (by cases h)⟩, hb1.grown hgr (by omega) fun k hk => by cases hk; exact Nat.le_refl _⟩

set_option maxRecDepth 100000 in
set_option maxHeartbeats 1000000 in
theorem clone7 (v : Value) (m : Nat) (hm : m ≤ 100000) (news : List Value) (w0 : World) (hin : SlIn w0 4 v m news) :
    Calls Yba.prog 7 #[v] w0 fun e w' => ∃ v', e = .returned v' ∧ w'.ownsRow w0.heap.size 27 4 v' m news ∧ (v' = .slice none 0 0 ↔ v = .slice none 0 0) ∧ Below w0.heap.size w0 w' := by
  refine calls_of_wp (c := Yba.f7.body.getD .skip) Yba.func7 (by kernel_rfl) ?_
  rw [Yba.ntmps7]
  have hK := kn_call [v] 8 (L := [(0, v)]) ⟨rfl, trivial⟩ (by simp)
  generalize ({ tmps := [v].toArray ++ Array.replicate (8 - [v].toArray.size) undef, defers := [] } : Act) = a at *
  conv => arg 2; whnf
  refine wp_seq ?_
  refine wp_region_lit ?_
  refine kl hK 2 rfl (by decide) rfl (fun ρ hρ => r_as _ rfl (hρ _ _ rfl)) ?_
  clear hK a; intro a hK
  refine wpList_nil ?_
  show Code.wp Yba.prog _ _ _ _
  refine wp_seq ?_
  refine wp_seq ?_
  rcases hin with ⟨rfl, rfl, rfl⟩ | ⟨ad, c, rfl, h0, hl, hnews, h1⟩
  · skip
    refine wp_region_lit ?_
    refine kl hK 3 rfl (by decide) rfl (fun ρ hρ => r_mv _ rfl (hρ _ _ rfl)) ?_
    clear hK a; intro a hK
    refine kl hK 4 rfl (by decide) rfl (fun ρ hρ => r_isnil 25 27 Yba.underlying25 _ rfl (hρ _ _ rfl) (hρ _ _ rfl)) ?_
    clear hK a; intro a hK
    refine wpList_nil ?_
    show Code.wp Yba.prog _ _ _ _
    refine wp_cond_true (hK.rho (.tmp 4) _ rfl) ?_
    refine wp_seq ?_
    refine wp_region_lit ?_
    refine kl hK 2 rfl (by decide) rfl (fun ρ hρ => r_as _ rfl (hρ _ _ rfl)) ?_
    clear hK a; intro a hK
    refine wpList_nil ?_
    show Code.wp Yba.prog _ _ _ _
    refine wp_ret ?_
    try simp only [Exit.inBlock, Exit.then]
    exact kret1 (s := 2) hK rfl rfl ⟨_, rfl, World.ownsRow_nil _ _ _ _, (by first | exact Iff.rfl | exact ⟨fun _ => trivial, fun _ => rfl⟩), Below.refl _ _⟩
  · skip
    refine wp_region_lit ?_
    refine kl hK 3 rfl (by decide) rfl (fun ρ hρ => r_mv _ rfl (hρ _ _ rfl)) ?_
    clear hK a; intro a hK
    refine kl hK 4 rfl (by decide) rfl (fun ρ hρ => r_notnil 25 27 Yba.underlying25 _ rfl (hρ _ _ rfl) (hρ _ _ rfl)) ?_
    clear hK a; intro a hK
    refine wpList_nil ?_
    show Code.wp Yba.prog _ _ _ _
    refine wp_cond_false (hK.rho (.tmp 4) _ rfl) ?_
    refine wp_skip ?_
    show Code.wp Yba.prog _ _ _ _
    refine wp_seq ?_
    refine wp_region_lit ?_
    refine kl hK 5 rfl (by decide) rfl (fun ρ hρ => r_bs0_25 rfl) ?_
    clear hK a; intro a hK
    refine kl hK 6 rfl (by decide) rfl (fun ρ hρ => r_mv _ rfl (hρ _ _ rfl)) ?_
    clear hK a; intro a hK
    have hs1 := alloc_size w0 (.cells #[] 27)
    have hown : (w0.alloc (.cells #[] 27)).ownsRow w0.heap.size 27 4 (.slice (some ⟨w0.heap.size, 0, none⟩) 0 0) 0 [] := ⟨rfl, .inr ⟨w0.heap.size, 0, #[], rfl, Nat.le_refl _, Go.Deep.blk_alloc_new _ _, Nat.le_refl _, Nat.zero_le _, rfl, rfl⟩⟩
    have hb1 := bel_alloc (Below.refl w0.heap.size w0) (.cells #[] 27)
    have hnews1 : ∀ j u, news[j]? = some u → (w0.alloc (.cells #[] 27)).cell? (ad.add j) = some u := fun j u hu => by
      have h2 := hnews j u hu
      have hlt : (ad.add j).block < w0.heap.size := World.block_lt_of_cell? w0 _ h2
      exact (hb1.cell hlt).trans h2
    refine kapp hK 7 5 6 25 rfl (by decide) rfl rfl w0.heap.size Yba.underlying25 info27' rfl (by decide) (by decide) rfl rfl hown hl hnews1 h1 h0 (by omega) (by omega) ?_
    intro g cap w2 hown2 hgr hat hgl
    clear hK a; intro a hK
    refine kl hK 2 rfl (by decide) rfl (fun ρ hρ => r_as _ rfl (hρ _ _ rfl)) ?_
    clear hK a; intro a hK
    refine wpList_nil ?_
    show Code.wp Yba.prog _ _ _ _
    refine wp_ret ?_
    rw [Nat.zero_add] at hK hown2
    exact kret1 (s := 2) hK rfl rfl ⟨_, rfl, hown2, ⟨fun h => (by cases h), fun h => (by cases h)⟩, hb1.grown hgr (by omega) fun k hk => by cases hk; exact Nat.le_refl _⟩

set_option maxRecDepth 100000 in
set_option maxHeartbeats 1000000 in
theorem clone8 (v : Value) (m : Nat) (hm : m ≤ 100000) (news : List Value) (w0 : World) (hin : SlIn w0 4 v m news) :
    Calls Yba.prog 8 #[v] w0 fun e w' => ∃ v', e = .returned v' ∧ w'.ownsRow w0.heap.size 46 4 v' m news ∧ (v' = .slice none 0 0 ↔ v = .slice none 0 0) ∧ Below w0.heap.size w0 w' := by
  refine calls_of_wp (c := Yba.f8.body.getD .skip) Yba.func8 (by kernel_rfl) ?_
  rw [Yba.ntmps8]
  have hK := kn_call [v] 8 (L := [(0, v)]) ⟨rfl, trivial⟩ (by simp)
  generalize ({ tmps := [v].toArray ++ Array.replicate (8 - [v].toArray.size) undef, defers := [] } : Act) = a at *
  conv => arg 2; whnf
  refine wp_seq ?_
  refine wp_region_lit ?_
  refine kl hK 2 rfl (by decide) rfl (fun ρ hρ => r_as _ rfl (hρ _ _ rfl)) ?_
  clear hK a; intro a hK
  refine wpList_nil ?_
  show Code.wp Yba.prog _ _ _ _
  refine wp_seq ?_
  refine wp_seq ?_
  rcases hin with ⟨rfl, rfl, rfl⟩ | ⟨ad, c, rfl, h0, hl, hnews, h1⟩
  · skip
    refine wp_region_lit ?_
    refine kl hK 3 rfl (by decide) rfl (fun ρ hρ => r_mv _ rfl (hρ _ _ rfl)) ?_
    clear hK a; intro a hK
    refine kl hK 4 rfl (by decide) rfl (fun ρ hρ => r_isnil 41 46 Yba.underlying41 _ rfl (hρ _ _ rfl) (hρ _ _ rfl)) ?_
    clear hK a; intro a hK
    refine wpList_nil ?_
    show Code.wp Yba.prog _ _ _ _
    refine wp_cond_true (hK.rho (.tmp 4) _ rfl) ?_
    refine wp_seq ?_
    refine wp_region_lit ?_
    refine kl hK 2 rfl (by decide) rfl (fun ρ hρ => r_as _ rfl (hρ _ _ rfl)) ?_
    clear hK a; intro a hK
    refine wpList_nil ?_
    show Code.wp Yba.prog _ _ _ _
    refine wp_ret ?_
    try simp only [Exit.inBlock, Exit.then]
    exact kret1 (s := 2) hK rfl rfl ⟨_, rfl, World.ownsRow_nil _ _ _ _, (by first | exact Iff.rfl | exact ⟨fun _ => trivial, fun _ => rfl⟩), Below.refl _ _⟩
  · skip
    refine wp_region_lit ?_
    refine kl hK 3 rfl (by decide) rfl (fun ρ hρ => r_mv _ rfl (hρ _ _ rfl)) ?_
    clear hK a; intro a hK
    refine kl hK 4 rfl (by decide) rfl (fun ρ hρ => r_notnil 41 46 Yba.underlying41 _ rfl (hρ _ _ rfl) (hρ _ _ rfl)) ?_
    clear hK a; intro a hK
    refine wpList_nil ?_
    show Code.wp Yba.prog _ _ _ _
    refine wp_cond_false (hK.rho (.tmp 4) _ rfl) ?_
    refine wp_skip ?_
    show Code.wp Yba.prog _ _ _ _
    refine wp_seq ?_
    refine wp_region_lit ?_
    refine kl hK 5 rfl (by decide) rfl (fun ρ hρ => r_bs0_41 rfl) ?_
    clear hK a; intro a hK
    refine kl hK 6 rfl (by decide) rfl (fun ρ hρ => r_mv _ rfl (hρ _ _ rfl)) ?_
    clear hK a; intro a hK
    have hs1 := alloc_size w0 (.cells #[] 46)
    have hown : (w0.alloc (.cells #[] 46)).ownsRow w0.heap.size 46 4 (.slice (some ⟨w0.heap.size, 0, none⟩) 0 0) 0 [] := ⟨rfl, .inr ⟨w0.heap.size, 0, #[], rfl, Nat.le_refl _, Go.Deep.blk_alloc_new _ _, Nat.le_refl _, Nat.zero_le _, rfl, rfl⟩⟩
    have hb1 := bel_alloc (Below.refl w0.heap.size w0) (.cells #[] 46)
    have hnews1 : ∀ j u, news[j]? = some u → (w0.alloc (.cells #[] 46)).cell? (ad.add j) = some u := fun j u hu => by
      have h2 := hnews j u hu
      have hlt : (ad.add j).block < w0.heap.size := World.block_lt_of_cell? w0 _ h2
      exact (hb1.cell hlt).trans h2
    refine kapp hK 7 5 6 41 rfl (by decide) rfl rfl w0.heap.size Yba.underlying41 info46' rfl (by decide) (by decide) rfl rfl hown hl hnews1 h1 h0 (by omega) (by omega) ?_
    intro g cap w2 hown2 hgr hat hgl
    clear hK a; intro a hK
    refine kl hK 2 rfl (by decide) rfl (fun ρ hρ => r_as _ rfl (hρ _ _ rfl)) ?_
    clear hK a; intro a hK
    refine wpList_nil ?_
    show Code.wp Yba.prog _ _ _ _
    refine wp_ret ?_
    rw [Nat.zero_add] at hK hown2
    exact kret1 (s := 2) hK rfl rfl ⟨_, rfl, hown2, ⟨fun h => (by cases h), fun h => (by cases h)⟩, hb1.grown hgr (by omega) fun k hk => by cases hk; exact Nat.le_refl _⟩

set_option maxRecDepth 100000 in
set_option maxHeartbeats 1000000 in
theorem equal12 (a1 a2 : Option Addr) (m c1 c2 : Nat) (hm : m ≤ 100000) (Z : Nat → Int) (w0 : World) (hin : 0 < m → ∃ b1 b2, a1 = some ⟨b1, 0, none⟩ ∧ a2 = some ⟨b2, 0, none⟩ ∧ b1 < w0.heap.size ∧ b2 < w0.heap.size ∧ ∀ k, k < m * 1 → w0.cell? ⟨b1, k, none⟩ = some (.int .i32 (Z k)) ∧ w0.cell? ⟨b2, k, none⟩ = some (.int .i32 (Z k))) :
    Calls Yba.prog 12 #[.slice a1 m c1, .slice a2 m c2] w0 fun e w' => e = .returned (.bool true) ∧ Below w0.heap.size w0 w' := by
  refine calls_of_wp (c := Yba.f12.body.getD .skip) Yba.func12 (by kernel_rfl) ?_
  rw [Yba.ntmps12]
  have hK := kn_call [.slice a1 m c1, .slice a2 m c2] 26 (L := [(1, .slice a2 m c2), (0, .slice a1 m c1)]) ⟨rfl, rfl, trivial⟩ (by simp)
  generalize ({ tmps := [Value.slice a1 m c1, .slice a2 m c2].toArray ++ Array.replicate (26 - [Value.slice a1 m c1, .slice a2 m c2].toArray.size) undef, defers := [] } : Act) = a at *
  conv => arg 2; whnf
  refine wp_seq ?_
  refine wp_region_lit ?_
  refine kl hK 4 rfl (by decide) rfl (fun ρ hρ => r_as _ rfl (hρ _ _ rfl)) ?_
  clear hK a; intro a hK
  refine wpList_nil ?_
  show Code.wp Yba.prog _ _ _ _
  refine wp_seq ?_
  refine wp_seq ?_
  refine wp_region_lit ?_
  refine kl hK 6 rfl (by decide) rfl (fun ρ hρ => r_mv _ rfl (hρ _ _ rfl)) ?_
  clear hK a; intro a hK
  refine kl hK 7 rfl (by decide) rfl (fun ρ hρ => r_len33 _ rfl (hρ _ _ rfl)) ?_
  clear hK a; intro a hK
  refine kl hK 8 rfl (by decide) rfl (fun ρ hρ => r_mv _ rfl (hρ _ _ rfl)) ?_
  clear hK a; intro a hK
  refine kl hK 9 rfl (by decide) rfl (fun ρ hρ => r_len33 _ rfl (hρ _ _ rfl)) ?_
  clear hK a; intro a hK
  refine kl hK 10 rfl (by decide) rfl (fun ρ hρ => r_neq3 _ _ rfl (hρ _ _ rfl) (hρ _ _ rfl)) ?_
  clear hK a; intro a hK
  refine wpList_nil ?_
  show Code.wp Yba.prog _ _ _ _
  refine wp_cond_false (by rw [hK.rho (.tmp 10) _ rfl]; exact congrArg Value.bool (decide_eq_false (by omega))) ?_
  refine wp_skip ?_
  show Code.wp Yba.prog _ _ _ _
  refine wp_seq ?_
  refine wp_seq ?_
  refine wp_region_lit ?_
  refine kl hK 11 rfl (by decide) rfl (fun ρ hρ => r_mv _ rfl (hρ _ _ rfl)) ?_
  clear hK a; intro a hK
  refine kl hK 12 rfl (by decide) rfl (fun ρ hρ => r_len33 _ rfl (hρ _ _ rfl)) ?_
  clear hK a; intro a hK
  refine kl hK 13 rfl (by decide) rfl (fun ρ hρ => r_mv _ rfl (hρ _ _ rfl)) ?_
  clear hK a; intro a hK
  refine wpList_nil ?_
  show Code.wp Yba.prog _ _ _ _
  refine loop_n _ (fun n a w => ∃ i, i ≤ m ∧ n = m - i ∧ Kn 26 ((13, .int .i64 (i : Nat)) :: (12, .int .i64 m) :: (1, .slice a2 m c2) :: (0, .slice a1 m c1) :: []) a ∧ Below w0.heap.size w0 w) ⟨0, Nat.zero_le _, rfl, hK.sub ⟨rfl, rfl, rfl, rfl, trivial⟩, Below.refl _ _⟩ ?_
  clear hK a
  rintro n a w R ⟨i, hi, hn, hK, hb⟩ hR
  refine wp_seq ?_
  refine wp_region_lit ?_
  refine kl hK 14 rfl (by decide) rfl (fun ρ hρ => r_lss3 _ _ rfl (hρ _ _ rfl) (hρ _ _ rfl)) ?_
  clear hK a; intro a hK
  refine wpList_nil ?_
  show Code.wp Yba.prog _ _ _ _
  refine wp_seq ?_
  by_cases hil : i < m
  · obtain ⟨b1, b2, rfl, rfl, l1, l2, hZ⟩ := hin (by omega)
    have p0 : w.cell? ⟨b1, i, none⟩ = some (.int .i32 (Z (i))) := (hb.cell (p := ⟨b1, i, none⟩) l1).trans (hZ (i) (by omega)).1
    have q0 : w.cell? ⟨b2, i, none⟩ = some (.int .i32 (Z (i))) := (hb.cell (p := ⟨b2, i, none⟩) l2).trans (hZ (i) (by omega)).2
    refine wp_cond_true (by rw [hK.rho (.tmp 14) _ rfl]; exact congrArg Value.bool (decide_eq_true (by omega))) ?_
    refine wp_skip ?_
    show Code.wp Yba.prog _ _ _ _
    refine wp_seq ?_
    refine wp_block ?_
    refine wp_seq ?_
    refine wp_region_lit ?_
    refine kl hK 15 rfl (by decide) rfl (fun ρ hρ => r_mv _ rfl (hρ _ _ rfl)) ?_
    clear hK a; intro a hK
    refine kl hK 5 rfl (by decide) rfl (fun ρ hρ => r_as _ rfl (hρ _ _ rfl)) ?_
    clear hK a; intro a hK
    refine wpList_nil ?_
    show Code.wp Yba.prog _ _ _ _
    refine wp_seq ?_
    refine wp_region_quiet_lit (by kernel_rfl) (by kernel_rfl) ?_
    refine kq hK 16 rfl (by decide) rfl (fun ρ hρ w' hw' => r_mv _ rfl (hρ _ _ rfl)) ?_
    clear hK a; intro a hK
    refine kq hK 17 rfl (by decide) rfl (fun ρ hρ w' hw' => r_mv _ rfl (hρ _ _ rfl)) ?_
    clear hK a; intro a hK
    refine kq hK 18 rfl (by decide) rfl (fun ρ hρ w' hw' => r_ix33z _ _ rfl hil (hρ _ _ rfl) (hρ _ _ rfl)) ?_
    clear hK a; intro a hK
    refine kq hK 19 rfl (by decide) rfl (fun ρ hρ w' hw' => r_ld21 _ rfl (hρ _ _ rfl) (by obtain ⟨n, rfl⟩ := hw'; exact p0)) ?_
    clear hK a; intro a hK
    refine kq hK 20 rfl (by decide) rfl (fun ρ hρ w' hw' => r_mv _ rfl (hρ _ _ rfl)) ?_
    clear hK a; intro a hK
    refine kq hK 21 rfl (by decide) rfl (fun ρ hρ w' hw' => r_mv _ rfl (hρ _ _ rfl)) ?_
    clear hK a; intro a hK
    refine kq hK 22 rfl (by decide) rfl (fun ρ hρ w' hw' => r_ix33z _ _ rfl hil (hρ _ _ rfl) (hρ _ _ rfl)) ?_
    clear hK a; intro a hK
    refine kq hK 23 rfl (by decide) rfl (fun ρ hρ w' hw' => r_ld21 _ rfl (hρ _ _ rfl) (by obtain ⟨n, rfl⟩ := hw'; exact q0)) ?_
    clear hK a; intro a hK
    refine kq hK 24 rfl (by decide) rfl (fun ρ hρ w' hw' => r_neq21 _ _ rfl (hρ _ _ rfl) (hρ _ _ rfl)) ?_
    clear hK a; intro a hK
    refine wpQuiet_nil ?_
    rintro w' ⟨n, rfl⟩
    show Code.wp Yba.prog _ _ _ _
    refine wp_cond_false (by rw [hK.rho (.tmp 24) _ rfl]; exact congrArg Value.bool (decide_eq_false (by simp))) ?_
    refine wp_skip ?_
    show Code.wp Yba.prog _ _ _ _
    refine wp_region_lit ?_
    refine kl hK 25 rfl (by decide) rfl (fun ρ hρ => r_inc3 _ rfl (by omega) (hρ _ _ rfl) (hρ _ _ rfl)) ?_
    clear hK a; intro a hK
    refine kl hK 13 rfl (by decide) rfl (fun ρ hρ => r_mv _ rfl (hρ _ _ rfl)) ?_
    clear hK a; intro a hK
    refine wpList_nil ?_
    exact hR (m - (i + 1)) _ _ (by omega) ⟨i + 1, hil, rfl, hK.sub ⟨rfl, rfl, rfl, rfl, trivial⟩, bel_drewN hb _⟩
  · skip
    refine wp_cond_false (by rw [hK.rho (.tmp 14) _ rfl]; exact congrArg Value.bool (decide_eq_false (by omega))) ?_
    refine wp_exit ?_
    show Code.wp Yba.prog _ _ _ _
    refine wp_seq ?_
    refine wp_region_lit ?_
    refine kl hK 4 rfl (by decide) rfl (fun ρ hρ => r_as _ rfl (hρ _ _ rfl)) ?_
    clear hK a; intro a hK
    refine wpList_nil ?_
    show Code.wp Yba.prog _ _ _ _
    refine wp_ret ?_
    try simp only [Exit.inBlock, Exit.then]
    exact kret1 (s := 4) hK rfl rfl ⟨rfl, hb⟩

set_option maxRecDepth 100000 in
set_option maxHeartbeats 1000000 in
theorem equal13 (a1 a2 : Option Addr) (m c1 c2 : Nat) (hm : m ≤ 100000) (Z : Nat → Int) (w0 : World) (hin : 0 < m → ∃ b1 b2, a1 = some ⟨b1, 0, none⟩ ∧ a2 = some ⟨b2, 0, none⟩ ∧ b1 < w0.heap.size ∧ b2 < w0.heap.size ∧ ∀ k, k < m * 2 → w0.cell? ⟨b1, k, none⟩ = some (.int .i32 (Z k)) ∧ w0.cell? ⟨b2, k, none⟩ = some (.int .i32 (Z k))) :
    Calls Yba.prog 13 #[.slice a1 m c1, .slice a2 m c2] w0 fun e w' => e = .returned (.bool true) ∧ Below w0.heap.size w0 w' := by
  refine calls_of_wp (c := Yba.f13.body.getD .skip) Yba.func13 (by kernel_rfl) ?_
  rw [Yba.ntmps13]
  have hK := kn_call [.slice a1 m c1, .slice a2 m c2] 26 (L := [(1, .slice a2 m c2), (0, .slice a1 m c1)]) ⟨rfl, rfl, trivial⟩ (by simp)
  generalize ({ tmps := [Value.slice a1 m c1, .slice a2 m c2].toArray ++ Array.replicate (26 - [Value.slice a1 m c1, .slice a2 m c2].toArray.size) undef, defers := [] } : Act) = a at *
  conv => arg 2; whnf
  refine wp_seq ?_
  refine wp_region_lit ?_
  refine kl hK 4 rfl (by decide) rfl (fun ρ hρ => r_as _ rfl (hρ _ _ rfl)) ?_
  clear hK a; intro a hK
  refine wpList_nil ?_
  show Code.wp Yba.prog _ _ _ _
  refine wp_seq ?_
  refine wp_seq ?_
  refine wp_region_lit ?_
  refine kl hK 6 rfl (by decide) rfl (fun ρ hρ => r_mv _ rfl (hρ _ _ rfl)) ?_
  clear hK a; intro a hK
  refine kl hK 7 rfl (by decide) rfl (fun ρ hρ => r_len31 _ rfl (hρ _ _ rfl)) ?_
  clear hK a; intro a hK
  refine kl hK 8 rfl (by decide) rfl (fun ρ hρ => r_mv _ rfl (hρ _ _ rfl)) ?_
  clear hK a; intro a hK
  refine kl hK 9 rfl (by decide) rfl (fun ρ hρ => r_len31 _ rfl (hρ _ _ rfl)) ?_
  clear hK a; intro a hK
  refine kl hK 10 rfl (by decide) rfl (fun ρ hρ => r_neq3 _ _ rfl (hρ _ _ rfl) (hρ _ _ rfl)) ?_
  clear hK a; intro a hK
  refine wpList_nil ?_
  show Code.wp Yba.prog _ _ _ _
  refine wp_cond_false (by rw [hK.rho (.tmp 10) _ rfl]; exact congrArg Value.bool (decide_eq_false (by omega))) ?_
  refine wp_skip ?_
  show Code.wp Yba.prog _ _ _ _
  refine wp_seq ?_
  refine wp_seq ?_
  refine wp_region_lit ?_
  refine kl hK 11 rfl (by decide) rfl (fun ρ hρ => r_mv _ rfl (hρ _ _ rfl)) ?_
  clear hK a; intro a hK
  refine kl hK 12 rfl (by decide) rfl (fun ρ hρ => r_len31 _ rfl (hρ _ _ rfl)) ?_
  clear hK a; intro a hK
  refine kl hK 13 rfl (by decide) rfl (fun ρ hρ => r_mv _ rfl (hρ _ _ rfl)) ?_
  clear hK a; intro a hK
  refine wpList_nil ?_
  show Code.wp Yba.prog _ _ _ _
  refine loop_n _ (fun n a w => ∃ i, i ≤ m ∧ n = m - i ∧ Kn 26 ((13, .int .i64 (i : Nat)) :: (12, .int .i64 m) :: (1, .slice a2 m c2) :: (0, .slice a1 m c1) :: []) a ∧ Below w0.heap.size w0 w) ⟨0, Nat.zero_le _, rfl, hK.sub ⟨rfl, rfl, rfl, rfl, trivial⟩, Below.refl _ _⟩ ?_
  clear hK a
  rintro n a w R ⟨i, hi, hn, hK, hb⟩ hR
  refine wp_seq ?_
  refine wp_region_lit ?_
  refine kl hK 14 rfl (by decide) rfl (fun ρ hρ => r_lss3 _ _ rfl (hρ _ _ rfl) (hρ _ _ rfl)) ?_
  clear hK a; intro a hK
  refine wpList_nil ?_
  show Code.wp Yba.prog _ _ _ _
  refine wp_seq ?_
  by_cases hil : i < m
  · obtain ⟨b1, b2, rfl, rfl, l1, l2, hZ⟩ := hin (by omega)
    have p0 : w.cell? ⟨b1, i * 2, none⟩ = some (.int .i32 (Z (i * 2))) := (hb.cell (p := ⟨b1, i * 2, none⟩) l1).trans (hZ (i * 2) (by omega)).1
    have q0 : w.cell? ⟨b2, i * 2, none⟩ = some (.int .i32 (Z (i * 2))) := (hb.cell (p := ⟨b2, i * 2, none⟩) l2).trans (hZ (i * 2) (by omega)).2
    have p1 : w.cell? ⟨b1, i * 2 + 1, none⟩ = some (.int .i32 (Z (i * 2 + 1))) := (hb.cell (p := ⟨b1, i * 2 + 1, none⟩) l1).trans (hZ (i * 2 + 1) (by omega)).1
    have q1 : w.cell? ⟨b2, i * 2 + 1, none⟩ = some (.int .i32 (Z (i * 2 + 1))) := (hb.cell (p := ⟨b2, i * 2 + 1, none⟩) l2).trans (hZ (i * 2 + 1) (by omega)).2
    refine wp_cond_true (by rw [hK.rho (.tmp 14) _ rfl]; exact congrArg Value.bool (decide_eq_true (by omega))) ?_
    refine wp_skip ?_
    show Code.wp Yba.prog _ _ _ _
    refine wp_seq ?_
    refine wp_block ?_
    refine wp_seq ?_
    refine wp_region_lit ?_
    refine kl hK 15 rfl (by decide) rfl (fun ρ hρ => r_mv _ rfl (hρ _ _ rfl)) ?_
    clear hK a; intro a hK
    refine kl hK 5 rfl (by decide) rfl (fun ρ hρ => r_as _ rfl (hρ _ _ rfl)) ?_
    clear hK a; intro a hK
    refine wpList_nil ?_
    show Code.wp Yba.prog _ _ _ _
    refine wp_seq ?_
    refine wp_region_quiet_lit (by kernel_rfl) (by kernel_rfl) ?_
    refine kq hK 16 rfl (by decide) rfl (fun ρ hρ w' hw' => r_mv _ rfl (hρ _ _ rfl)) ?_
    clear hK a; intro a hK
    refine kq hK 17 rfl (by decide) rfl (fun ρ hρ w' hw' => r_mv _ rfl (hρ _ _ rfl)) ?_
    clear hK a; intro a hK
    refine kq hK 18 rfl (by decide) rfl (fun ρ hρ w' hw' => r_ix31z _ _ rfl hil (hρ _ _ rfl) (hρ _ _ rfl)) ?_
    clear hK a; intro a hK
    refine kq hK 19 rfl (by decide) rfl (fun ρ hρ w' hw' => r_ld38 _ rfl (hρ _ _ rfl) (by obtain ⟨n, rfl⟩ := hw'; exact p0) (by obtain ⟨n, rfl⟩ := hw'; exact p1)) ?_
    clear hK a; intro a hK
    refine kq hK 20 rfl (by decide) rfl (fun ρ hρ w' hw' => r_mv _ rfl (hρ _ _ rfl)) ?_
    clear hK a; intro a hK
    refine kq hK 21 rfl (by decide) rfl (fun ρ hρ w' hw' => r_mv _ rfl (hρ _ _ rfl)) ?_
    clear hK a; intro a hK
    refine kq hK 22 rfl (by decide) rfl (fun ρ hρ w' hw' => r_ix31z _ _ rfl hil (hρ _ _ rfl) (hρ _ _ rfl)) ?_
    clear hK a; intro a hK
    refine kq hK 23 rfl (by decide) rfl (fun ρ hρ w' hw' => r_ld38 _ rfl (hρ _ _ rfl) (by obtain ⟨n, rfl⟩ := hw'; exact q0) (by obtain ⟨n, rfl⟩ := hw'; exact q1)) ?_
    clear hK a; intro a hK
    refine kq hK 24 rfl (by decide) rfl (fun ρ hρ w' hw' => r_same38 _ _ rfl (hρ _ _ rfl) (hρ _ _ rfl)) ?_
    clear hK a; intro a hK
    refine wpQuiet_nil ?_
    rintro w' ⟨n, rfl⟩
    show Code.wp Yba.prog _ _ _ _
    refine wp_cond_false (hK.rho (.tmp 24) _ rfl) ?_
    refine wp_skip ?_
    show Code.wp Yba.prog _ _ _ _
    refine wp_region_lit ?_
    refine kl hK 25 rfl (by decide) rfl (fun ρ hρ => r_inc3 _ rfl (by omega) (hρ _ _ rfl) (hρ _ _ rfl)) ?_
    clear hK a; intro a hK
    refine kl hK 13 rfl (by decide) rfl (fun ρ hρ => r_mv _ rfl (hρ _ _ rfl)) ?_
    clear hK a; intro a hK
    refine wpList_nil ?_
    exact hR (m - (i + 1)) _ _ (by omega) ⟨i + 1, hil, rfl, hK.sub ⟨rfl, rfl, rfl, rfl, trivial⟩, bel_drewN hb _⟩
  · skip
    refine wp_cond_false (by rw [hK.rho (.tmp 14) _ rfl]; exact congrArg Value.bool (decide_eq_false (by omega))) ?_
    refine wp_exit ?_
    show Code.wp Yba.prog _ _ _ _
    refine wp_seq ?_
    refine wp_region_lit ?_
    refine kl hK 4 rfl (by decide) rfl (fun ρ hρ => r_as _ rfl (hρ _ _ rfl)) ?_
    clear hK a; intro a hK
    refine wpList_nil ?_
    show Code.wp Yba.prog _ _ _ _
    refine wp_ret ?_
    try simp only [Exit.inBlock, Exit.then]
    exact kret1 (s := 4) hK rfl rfl ⟨rfl, hb⟩

set_option maxRecDepth 100000 in
set_option maxHeartbeats 1000000 in
theorem equal14 (a1 a2 : Option Addr) (m c1 c2 : Nat) (hm : m ≤ 100000) (Z : Nat → Int) (w0 : World) (hin : 0 < m → ∃ b1 b2, a1 = some ⟨b1, 0, none⟩ ∧ a2 = some ⟨b2, 0, none⟩ ∧ b1 < w0.heap.size ∧ b2 < w0.heap.size ∧ ∀ k, k < m * 2 → w0.cell? ⟨b1, k, none⟩ = some (.int .i32 (Z k)) ∧ w0.cell? ⟨b2, k, none⟩ = some (.int .i32 (Z k))) :
    Calls Yba.prog 14 #[.slice a1 m c1, .slice a2 m c2] w0 fun e w' => e = .returned (.bool true) ∧ Below w0.heap.size w0 w' := by
  refine calls_of_wp (c := Yba.f14.body.getD .skip) Yba.func14 (by kernel_rfl) ?_
  rw [Yba.ntmps14]
  have hK := kn_call [.slice a1 m c1, .slice a2 m c2] 26 (L := [(1, .slice a2 m c2), (0, .slice a1 m c1)]) ⟨rfl, rfl, trivial⟩ (by simp)
  generalize ({ tmps := [Value.slice a1 m c1, .slice a2 m c2].toArray ++ Array.replicate (26 - [Value.slice a1 m c1, .slice a2 m c2].toArray.size) undef, defers := [] } : Act) = a at *
  conv => arg 2; whnf
  refine wp_seq ?_
  refine wp_region_lit ?_
  refine kl hK 4 rfl (by decide) rfl (fun ρ hρ => r_as _ rfl (hρ _ _ rfl)) ?_
  clear hK a; intro a hK
  refine wpList_nil ?_
  show Code.wp Yba.prog _ _ _ _
  refine wp_seq ?_
  refine wp_seq ?_
  refine wp_region_lit ?_
  refine kl hK 6 rfl (by decide) rfl (fun ρ hρ => r_mv _ rfl (hρ _ _ rfl)) ?_
  clear hK a; intro a hK
  refine kl hK 7 rfl (by decide) rfl (fun ρ hρ => r_len32 _ rfl (hρ _ _ rfl)) ?_
  clear hK a; intro a hK
  refine kl hK 8 rfl (by decide) rfl (fun ρ hρ => r_mv _ rfl (hρ _ _ rfl)) ?_
  clear hK a; intro a hK
  refine kl hK 9 rfl (by decide) rfl (fun ρ hρ => r_len32 _ rfl (hρ _ _ rfl)) ?_
  clear hK a; intro a hK
  refine kl hK 10 rfl (by decide) rfl (fun ρ hρ => r_neq3 _ _ rfl (hρ _ _ rfl) (hρ _ _ rfl)) ?_
  clear hK a; intro a hK
  refine wpList_nil ?_
  show Code.wp Yba.prog _ _ _ _
  refine wp_cond_false (by rw [hK.rho (.tmp 10) _ rfl]; exact congrArg Value.bool (decide_eq_false (by omega))) ?_
  refine wp_skip ?_
  show Code.wp Yba.prog _ _ _ _
  refine wp_seq ?_
  refine wp_seq ?_
  refine wp_region_lit ?_
  refine kl hK 11 rfl (by decide) rfl (fun ρ hρ => r_mv _ rfl (hρ _ _ rfl)) ?_
  clear hK a; intro a hK
  refine kl hK 12 rfl (by decide) rfl (fun ρ hρ => r_len32 _ rfl (hρ _ _ rfl)) ?_
  clear hK a; intro a hK
  refine kl hK 13 rfl (by decide) rfl (fun ρ hρ => r_mv _ rfl (hρ _ _ rfl)) ?_
  clear hK a; intro a hK
  refine wpList_nil ?_
  show Code.wp Yba.prog _ _ _ _
  refine loop_n _ (fun n a w => ∃ i, i ≤ m ∧ n = m - i ∧ Kn 26 ((13, .int .i64 (i : Nat)) :: (12, .int .i64 m) :: (1, .slice a2 m c2) :: (0, .slice a1 m c1) :: []) a ∧ Below w0.heap.size w0 w) ⟨0, Nat.zero_le _, rfl, hK.sub ⟨rfl, rfl, rfl, rfl, trivial⟩, Below.refl _ _⟩ ?_
  clear hK a
  rintro n a w R ⟨i, hi, hn, hK, hb⟩ hR
  refine wp_seq ?_
  refine wp_region_lit ?_
  refine kl hK 14 rfl (by decide) rfl (fun ρ hρ => r_lss3 _ _ rfl (hρ _ _ rfl) (hρ _ _ rfl)) ?_
  clear hK a; intro a hK
  refine wpList_nil ?_
  show Code.wp Yba.prog _ _ _ _
  refine wp_seq ?_
  by_cases hil : i < m
  · obtain ⟨b1, b2, rfl, rfl, l1, l2, hZ⟩ := hin (by omega)
    have p0 : w.cell? ⟨b1, i * 2, none⟩ = some (.int .i32 (Z (i * 2))) := (hb.cell (p := ⟨b1, i * 2, none⟩) l1).trans (hZ (i * 2) (by omega)).1
    have q0 : w.cell? ⟨b2, i * 2, none⟩ = some (.int .i32 (Z (i * 2))) := (hb.cell (p := ⟨b2, i * 2, none⟩) l2).trans (hZ (i * 2) (by omega)).2
    have p1 : w.cell? ⟨b1, i * 2 + 1, none⟩ = some (.int .i32 (Z (i * 2 + 1))) := (hb.cell (p := ⟨b1, i * 2 + 1, none⟩) l1).trans (hZ (i * 2 + 1) (by omega)).1
    have q1 : w.cell? ⟨b2, i * 2 + 1, none⟩ = some (.int .i32 (Z (i * 2 + 1))) := (hb.cell (p := ⟨b2, i * 2 + 1, none⟩) l2).trans (hZ (i * 2 + 1) (by omega)).2
    refine wp_cond_true (by rw [hK.rho (.tmp 14) _ rfl]; exact congrArg Value.bool (decide_eq_true (by omega))) ?_
    refine wp_skip ?_
    show Code.wp Yba.prog _ _ _ _
    refine wp_seq ?_
    refine wp_block ?_
    refine wp_seq ?_
    refine wp_region_lit ?_
    refine kl hK 15 rfl (by decide) rfl (fun ρ hρ => r_mv _ rfl (hρ _ _ rfl)) ?_
    clear hK a; intro a hK
    refine kl hK 5 rfl (by decide) rfl (fun ρ hρ => r_as _ rfl (hρ _ _ rfl)) ?_
    clear hK a; intro a hK
    refine wpList_nil ?_
    show Code.wp Yba.prog _ _ _ _
    refine wp_seq ?_
    refine wp_region_quiet_lit (by kernel_rfl) (by kernel_rfl) ?_
    refine kq hK 16 rfl (by decide) rfl (fun ρ hρ w' hw' => r_mv _ rfl (hρ _ _ rfl)) ?_
    clear hK a; intro a hK
    refine kq hK 17 rfl (by decide) rfl (fun ρ hρ w' hw' => r_mv _ rfl (hρ _ _ rfl)) ?_
    clear hK a; intro a hK
    refine kq hK 18 rfl (by decide) rfl (fun ρ hρ w' hw' => r_ix32z _ _ rfl hil (hρ _ _ rfl) (hρ _ _ rfl)) ?_
    clear hK a; intro a hK
    refine kq hK 19 rfl (by decide) rfl (fun ρ hρ w' hw' => r_ld40 _ rfl (hρ _ _ rfl) (by obtain ⟨n, rfl⟩ := hw'; exact p0) (by obtain ⟨n, rfl⟩ := hw'; exact p1)) ?_
    clear hK a; intro a hK
    refine kq hK 20 rfl (by decide) rfl (fun ρ hρ w' hw' => r_mv _ rfl (hρ _ _ rfl)) ?_
    clear hK a; intro a hK
    refine kq hK 21 rfl (by decide) rfl (fun ρ hρ w' hw' => r_mv _ rfl (hρ _ _ rfl)) ?_
    clear hK a; intro a hK
    refine kq hK 22 rfl (by decide) rfl (fun ρ hρ w' hw' => r_ix32z _ _ rfl hil (hρ _ _ rfl) (hρ _ _ rfl)) ?_
    clear hK a; intro a hK
    refine kq hK 23 rfl (by decide) rfl (fun ρ hρ w' hw' => r_ld40 _ rfl (hρ _ _ rfl) (by obtain ⟨n, rfl⟩ := hw'; exact q0) (by obtain ⟨n, rfl⟩ := hw'; exact q1)) ?_
    clear hK a; intro a hK
    refine kq hK 24 rfl (by decide) rfl (fun ρ hρ w' hw' => r_same40 _ _ rfl (hρ _ _ rfl) (hρ _ _ rfl)) ?_
    clear hK a; intro a hK
    refine wpQuiet_nil ?_
    rintro w' ⟨n, rfl⟩
    show Code.wp Yba.prog _ _ _ _
    refine wp_cond_false (hK.rho (.tmp 24) _ rfl) ?_
    refine wp_skip ?_
    show Code.wp Yba.prog _ _ _ _
    refine wp_region_lit ?_
    refine kl hK 25 rfl (by decide) rfl (fun ρ hρ => r_inc3 _ rfl (by omega) (hρ _ _ rfl) (hρ _ _ rfl)) ?_
    clear hK a; intro a hK
    refine kl hK 13 rfl (by decide) rfl (fun ρ hρ => r_mv _ rfl (hρ _ _ rfl)) ?_
    clear hK a; intro a hK
    refine wpList_nil ?_
    exact hR (m - (i + 1)) _ _ (by omega) ⟨i + 1, hil, rfl, hK.sub ⟨rfl, rfl, rfl, rfl, trivial⟩, bel_drewN hb _⟩
  · skip
    refine wp_cond_false (by rw [hK.rho (.tmp 14) _ rfl]; exact congrArg Value.bool (decide_eq_false (by omega))) ?_
    refine wp_exit ?_
    show Code.wp Yba.prog _ _ _ _
    refine wp_seq ?_
    refine wp_region_lit ?_
    refine kl hK 4 rfl (by decide) rfl (fun ρ hρ => r_as _ rfl (hρ _ _ rfl)) ?_
    clear hK a; intro a hK
    refine wpList_nil ?_
    show Code.wp Yba.prog _ _ _ _
    refine wp_ret ?_
    try simp only [Exit.inBlock, Exit.then]
    exact kret1 (s := 4) hK rfl rfl ⟨rfl, hb⟩

set_option maxRecDepth 100000 in
set_option maxHeartbeats 1000000 in
theorem equal15 (a1 a2 : Option Addr) (m c1 c2 : Nat) (hm : m ≤ 100000) (Z : Nat → Int) (w0 : World) (hin : 0 < m → ∃ b1 b2, a1 = some ⟨b1, 0, none⟩ ∧ a2 = some ⟨b2, 0, none⟩ ∧ b1 < w0.heap.size ∧ b2 < w0.heap.size ∧ ∀ k, k < m * 4 → w0.cell? ⟨b1, k, none⟩ = some (.int .i32 (Z k)) ∧ w0.cell? ⟨b2, k, none⟩ = some (.int .i32 (Z k))) :
    Calls Yba.prog 15 #[.slice a1 m c1, .slice a2 m c2] w0 fun e w' => e = .returned (.bool true) ∧ Below w0.heap.size w0 w' := by
  refine calls_of_wp (c := Yba.f15.body.getD .skip) Yba.func15 (by kernel_rfl) ?_
  rw [Yba.ntmps15]
  have hK := kn_call [.slice a1 m c1, .slice a2 m c2] 26 (L := [(1, .slice a2 m c2), (0, .slice a1 m c1)]) ⟨rfl, rfl, trivial⟩ (by simp)
  generalize ({ tmps := [Value.slice a1 m c1, .slice a2 m c2].toArray ++ Array.replicate (26 - [Value.slice a1 m c1, .slice a2 m c2].toArray.size) undef, defers := [] } : Act) = a at *
  conv => arg 2; whnf
  refine wp_seq ?_
  refine wp_region_lit ?_
  refine kl hK 4 rfl (by decide) rfl (fun ρ hρ => r_as _ rfl (hρ _ _ rfl)) ?_
  clear hK a; intro a hK
  refine wpList_nil ?_
  show Code.wp Yba.prog _ _ _ _
  refine wp_seq ?_
  refine wp_seq ?_
  refine wp_region_lit ?_
  refine kl hK 6 rfl (by decide) rfl (fun ρ hρ => r_mv _ rfl (hρ _ _ rfl)) ?_
  clear hK a; intro a hK
  refine kl hK 7 rfl (by decide) rfl (fun ρ hρ => r_len25 _ rfl (hρ _ _ rfl)) ?_
  clear hK a; intro a hK
  refine kl hK 8 rfl (by decide) rfl (fun ρ hρ => r_mv _ rfl (hρ _ _ rfl)) ?_
  clear hK a; intro a hK
  refine kl hK 9 rfl (by decide) rfl (fun ρ hρ => r_len25 _ rfl (hρ _ _ rfl)) ?_
  clear hK a; intro a hK
  refine kl hK 10 rfl (by decide) rfl (fun ρ hρ => r_neq3 _ _ rfl (hρ _ _ rfl) (hρ _ _ rfl)) ?_
  clear hK a; intro a hK
  refine wpList_nil ?_
  show Code.wp Yba.prog _ _ _ _
  refine wp_cond_false (by rw [hK.rho (.tmp 10) _ rfl]; exact congrArg Value.bool (decide_eq_false (by omega))) ?_
  refine wp_skip ?_
  show Code.wp Yba.prog _ _ _ _
  refine wp_seq ?_
  refine wp_seq ?_
  refine wp_region_lit ?_
  refine kl hK 11 rfl (by decide) rfl (fun ρ hρ => r_mv _ rfl (hρ _ _ rfl)) ?_
  clear hK a; intro a hK
  refine kl hK 12 rfl (by decide) rfl (fun ρ hρ => r_len25 _ rfl (hρ _ _ rfl)) ?_
  clear hK a; intro a hK
  refine kl hK 13 rfl (by decide) rfl (fun ρ hρ => r_mv _ rfl (hρ _ _ rfl)) ?_
  clear hK a; intro a hK
  refine wpList_nil ?_
  show Code.wp Yba.prog _ _ _ _
  refine loop_n _ (fun n a w => ∃ i, i ≤ m ∧ n = m - i ∧ Kn 26 ((13, .int .i64 (i : Nat)) :: (12, .int .i64 m) :: (1, .slice a2 m c2) :: (0, .slice a1 m c1) :: []) a ∧ Below w0.heap.size w0 w) ⟨0, Nat.zero_le _, rfl, hK.sub ⟨rfl, rfl, rfl, rfl, trivial⟩, Below.refl _ _⟩ ?_
  clear hK a
  rintro n a w R ⟨i, hi, hn, hK, hb⟩ hR
  refine wp_seq ?_
  refine wp_region_lit ?_
  refine kl hK 14 rfl (by decide) rfl (fun ρ hρ => r_lss3 _ _ rfl (hρ _ _ rfl) (hρ _ _ rfl)) ?_
  clear hK a; intro a hK
  refine wpList_nil ?_
  show Code.wp Yba.prog _ _ _ _
  refine wp_seq ?_
  by_cases hil : i < m
  · obtain ⟨b1, b2, rfl, rfl, l1, l2, hZ⟩ := hin (by omega)
    have p0 : w.cell? ⟨b1, i * 4, none⟩ = some (.int .i32 (Z (i * 4))) := (hb.cell (p := ⟨b1, i * 4, none⟩) l1).trans (hZ (i * 4) (by omega)).1
    have q0 : w.cell? ⟨b2, i * 4, none⟩ = some (.int .i32 (Z (i * 4))) := (hb.cell (p := ⟨b2, i * 4, none⟩) l2).trans (hZ (i * 4) (by omega)).2
    have p1 : w.cell? ⟨b1, i * 4 + 1, none⟩ = some (.int .i32 (Z (i * 4 + 1))) := (hb.cell (p := ⟨b1, i * 4 + 1, none⟩) l1).trans (hZ (i * 4 + 1) (by omega)).1
    have q1 : w.cell? ⟨b2, i * 4 + 1, none⟩ = some (.int .i32 (Z (i * 4 + 1))) := (hb.cell (p := ⟨b2, i * 4 + 1, none⟩) l2).trans (hZ (i * 4 + 1) (by omega)).2
    have p2 : w.cell? ⟨b1, i * 4 + 2, none⟩ = some (.int .i32 (Z (i * 4 + 2))) := (hb.cell (p := ⟨b1, i * 4 + 2, none⟩) l1).trans (hZ (i * 4 + 2) (by omega)).1
    have q2 : w.cell? ⟨b2, i * 4 + 2, none⟩ = some (.int .i32 (Z (i * 4 + 2))) := (hb.cell (p := ⟨b2, i * 4 + 2, none⟩) l2).trans (hZ (i * 4 + 2) (by omega)).2
    have p3 : w.cell? ⟨b1, i * 4 + 3, none⟩ = some (.int .i32 (Z (i * 4 + 3))) := (hb.cell (p := ⟨b1, i * 4 + 3, none⟩) l1).trans (hZ (i * 4 + 3) (by omega)).1
    have q3 : w.cell? ⟨b2, i * 4 + 3, none⟩ = some (.int .i32 (Z (i * 4 + 3))) := (hb.cell (p := ⟨b2, i * 4 + 3, none⟩) l2).trans (hZ (i * 4 + 3) (by omega)).2
    refine wp_cond_true (by rw [hK.rho (.tmp 14) _ rfl]; exact congrArg Value.bool (decide_eq_true (by omega))) ?_
    refine wp_skip ?_
    show Code.wp Yba.prog _ _ _ _
    refine wp_seq ?_
    refine wp_block ?_
    refine wp_seq ?_
    refine wp_region_lit ?_
    refine kl hK 15 rfl (by decide) rfl (fun ρ hρ => r_mv _ rfl (hρ _ _ rfl)) ?_
    clear hK a; intro a hK
    refine kl hK 5 rfl (by decide) rfl (fun ρ hρ => r_as _ rfl (hρ _ _ rfl)) ?_
    clear hK a; intro a hK
    refine wpList_nil ?_
    show Code.wp Yba.prog _ _ _ _
    refine wp_seq ?_
    refine wp_region_quiet_lit (by kernel_rfl) (by kernel_rfl) ?_
    refine kq hK 16 rfl (by decide) rfl (fun ρ hρ w' hw' => r_mv _ rfl (hρ _ _ rfl)) ?_
    clear hK a; intro a hK
    refine kq hK 17 rfl (by decide) rfl (fun ρ hρ w' hw' => r_mv _ rfl (hρ _ _ rfl)) ?_
    clear hK a; intro a hK
    refine kq hK 18 rfl (by decide) rfl (fun ρ hρ w' hw' => r_ix25z _ _ rfl hil (hρ _ _ rfl) (hρ _ _ rfl)) ?_
    clear hK a; intro a hK
    refine kq hK 19 rfl (by decide) rfl (fun ρ hρ w' hw' => r_ld27 _ rfl (hρ _ _ rfl) (by obtain ⟨n, rfl⟩ := hw'; exact p0) (by obtain ⟨n, rfl⟩ := hw'; exact p1) (by obtain ⟨n, rfl⟩ := hw'; exact p2) (by obtain ⟨n, rfl⟩ := hw'; exact p3)) ?_
    clear hK a; intro a hK
    refine kq hK 20 rfl (by decide) rfl (fun ρ hρ w' hw' => r_mv _ rfl (hρ _ _ rfl)) ?_
    clear hK a; intro a hK
    refine kq hK 21 rfl (by decide) rfl (fun ρ hρ w' hw' => r_mv _ rfl (hρ _ _ rfl)) ?_
    clear hK a; intro a hK
    refine kq hK 22 rfl (by decide) rfl (fun ρ hρ w' hw' => r_ix25z _ _ rfl hil (hρ _ _ rfl) (hρ _ _ rfl)) ?_
    clear hK a; intro a hK
    refine kq hK 23 rfl (by decide) rfl (fun ρ hρ w' hw' => r_ld27 _ rfl (hρ _ _ rfl) (by obtain ⟨n, rfl⟩ := hw'; exact q0) (by obtain ⟨n, rfl⟩ := hw'; exact q1) (by obtain ⟨n, rfl⟩ := hw'; exact q2) (by obtain ⟨n, rfl⟩ := hw'; exact q3)) ?_
    clear hK a; intro a hK
    refine kq hK 24 rfl (by decide) rfl (fun ρ hρ w' hw' => r_same27 _ _ rfl (hρ _ _ rfl) (hρ _ _ rfl)) ?_
    clear hK a; intro a hK
    refine wpQuiet_nil ?_
    rintro w' ⟨n, rfl⟩
    show Code.wp Yba.prog _ _ _ _
    refine wp_cond_false (hK.rho (.tmp 24) _ rfl) ?_
    refine wp_skip ?_
    show Code.wp Yba.prog _ _ _ _
    refine wp_region_lit ?_
    refine kl hK 25 rfl (by decide) rfl (fun ρ hρ => r_inc3 _ rfl (by omega) (hρ _ _ rfl) (hρ _ _ rfl)) ?_
    clear hK a; intro a hK
    refine kl hK 13 rfl (by decide) rfl (fun ρ hρ => r_mv _ rfl (hρ _ _ rfl)) ?_
    clear hK a; intro a hK
    refine wpList_nil ?_
    exact hR (m - (i + 1)) _ _ (by omega) ⟨i + 1, hil, rfl, hK.sub ⟨rfl, rfl, rfl, rfl, trivial⟩, bel_drewN hb _⟩
  · skip
    refine wp_cond_false (by rw [hK.rho (.tmp 14) _ rfl]; exact congrArg Value.bool (decide_eq_false (by omega))) ?_
    refine wp_exit ?_
    show Code.wp Yba.prog _ _ _ _
    refine wp_seq ?_
    refine wp_region_lit ?_
    refine kl hK 4 rfl (by decide) rfl (fun ρ hρ => r_as _ rfl (hρ _ _ rfl)) ?_
    clear hK a; intro a hK
    refine wpList_nil ?_
    show Code.wp Yba.prog _ _ _ _
    refine wp_ret ?_
    try simp only [Exit.inBlock, Exit.then]
    exact kret1 (s := 4) hK rfl rfl ⟨rfl, hb⟩
end Go.Proofs.Ybulkexuo
