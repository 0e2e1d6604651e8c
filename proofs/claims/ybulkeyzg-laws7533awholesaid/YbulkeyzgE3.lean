import Derived.Test.YbulkeyzgE2
namespace Go.Proofs.Ybulkeyzg
open Go.RowKit

/-! ### a frame by what is known of its slots -/
def lk : List (Nat × Value) → Nat → Option Value
  | [], _ => none
  | e :: L, n => match Nat.beq e.1 n with
    | true => some e.2
    | false => lk L n
structure Kn (n : Nat) (L : List (Nat × Value)) (a : Act) : Prop where
  size : a.tmps.size = n
  defers : a.defers = []
  get : ∀ k v, lk L k = some v → a.tmps[k]? = some v
def rd (L : List (Nat × Value)) : Operand → Option Value
  | .tmp k => lk L k
  | .const c => some c
  | _ => none
def Rho (L : List (Nat × Value)) (ρ : Operand → Value) : Prop := ∀ x v, rd L x = some v → ρ x = v
def allK (L : List (Nat × Value)) : List (Nat × Value) → Prop
  | [] => True
  | e :: M => lk L e.1 = some e.2 ∧ allK L M

section
variable {n : Nat} {L M : List (Nat × Value)} {a : Act}
theorem Kn.rho (h : Kn n L a) : Rho L a.eval := fun x v hx => by
  cases x with
  | tmp k => exact ev_of (h.get k v hx)
  | const c => exact Option.some.inj hx
  | _ => cases hx
theorem Kn.put (h : Kn n L a) {d : Nat} (hd : d < n) (v : Value) : Kn n ((d, v) :: L) (a.put (some d) v) := by
  refine ⟨by rw [put_size]; exact h.size, by rw [put_defers]; exact h.defers, fun k u hk => ?_⟩
  unfold lk at hk
  by_cases e : d = k
  · subst e
    rw [Nat.beq_refl] at hk
    cases hk
    exact put_self (by rw [h.size]; exact hd)
  · have : Nat.beq d k = false := by
      cases hb : Nat.beq d k with
      | true => exact absurd (Nat.eq_of_beq_eq_true hb) e
      | false => rfl
    simp only [this] at hk
    rw [put_get e]
    exact h.get k u hk
theorem lk_sub (h : allK L M) : ∀ k v, lk M k = some v → lk L k = some v := by
  induction M with
  | nil => intro k v hk; cases hk
  | cons e M ih =>
    intro k v hk
    unfold lk at hk
    cases hb : Nat.beq e.1 k with
    | true =>
      rw [hb] at hk
      cases hk
      rw [← Nat.eq_of_beq_eq_true hb]
      exact h.1
    | false =>
      rw [hb] at hk
      exact ih h.2 k v hk
theorem Kn.sub (h : Kn n L a) (hs : allK L M) : Kn n M a := ⟨h.size, h.defers, fun k v hk => h.get k v (lk_sub hs k v hk)⟩
end

section
variable {P : Program} {ops : Array Oper} {C : World → Prop} {QA : Act → Prop} {Q : Exit → Act → World → Prop} {a : Act} {w w' : World} {o : Oper} {rest : List Oper} {v : Value} {n : Nat} {L : List (Nat × Value)}
theorem kq (hK : Kn n L a) (d : Nat) (hd : o.dst = some d) (hn : d < n) (hg : o.guard = none) (h : ∀ ρ, Rho L ρ → ∀ w', C w' → (execOp ρ o).run P w' = .ok (.value v) w') (hk : ∀ a', Kn n ((d, v) :: L) a' → wpQuiet P ops C QA rest a') : wpQuiet P ops C QA (o :: rest) a :=
  q_val d hd hg (h _ hK.rho) (hk _ (hK.put hn v))
theorem kqg (hK : Kn n L a) (d k g : Nat) (hd : o.dst = some d) (hn : d < n) (hg : o.guard = some (k, false)) (hk' : (ops[k]?).bind (·.dst) = some g) (hv : lk L g = some (.bool false)) (h : ∀ ρ, Rho L ρ → ∀ w', C w' → (execOp ρ o).run P w' = .ok (.value v) w') (hk : ∀ a', Kn n ((d, v) :: L) a' → wpQuiet P ops C QA rest a') : wpQuiet P ops C QA (o :: rest) a :=
  q_gval d k g hd hg hk' (hK.get _ _ hv) (h _ hK.rho) (hk _ (hK.put hn v))
theorem kl (hK : Kn n L a) (d : Nat) (hd : o.dst = some d) (hn : d < n) (hg : o.guard = none) (h : ∀ ρ, Rho L ρ → (execOp ρ o).run P w = .ok (.value v) w') (hk : ∀ a', Kn n ((d, v) :: L) a' → wpList P ops Q rest a' w') : wpList P ops Q (o :: rest) a w :=
  l_val d hd hg (h _ hK.rho) (hk _ (hK.put hn v))
theorem klg (hK : Kn n L a) (d k g : Nat) (hd : o.dst = some d) (hn : d < n) (hg : o.guard = some (k, false)) (hk' : (ops[k]?).bind (·.dst) = some g) (hv : lk L g = some (.bool false)) (h : ∀ ρ, Rho L ρ → (execOp ρ o).run P w = .ok (.value v) w') (hk : ∀ a', Kn n ((d, v) :: L) a' → wpList P ops Q rest a' w') : wpList P ops Q (o :: rest) a w :=
  l_gval d k g hd hg hk' (hK.get _ _ hv) (h _ hK.rho) (hk _ (hK.put hn v))
theorem kst (hK : Kn n L a) (hd : o.dst = none) (hg : o.guard = none) (h : ∀ ρ, Rho L ρ → (execOp ρ o).run P w = .ok .skip w') (hk : wpList P ops Q rest a w') : wpList P ops Q (o :: rest) a w :=
  l_store hd hg (h _ hK.rho) hk
end

/-- the slots of Lv3 -/
def L3 (I : Inp) (psB mbB tsB rsB : Nat) (B : MB) (i : Nat) (rqv wtv : Value) : List (Nat × Value) :=
  [(0, .slice I.p0 I.lp I.c0), (1, .slice I.p1 I.lt I.c1), (2, .slice I.p2 I.lr I.c2), (10, .int .i64 I.D.np), (11, .slice (some ⟨psB, 0, none⟩) I.D.np I.D.np), (12, .slice (some ⟨mbB, 0, none⟩) I.D.np I.D.np),
   (17, .int .i64 I.D.nt), (18, .slice (some ⟨tsB, 0, none⟩) I.D.nt I.D.nt), (19, .slice (some ⟨B.ms, 0, none⟩) I.D.nt I.D.nt), (20, .slice (some ⟨B.mf, 0, none⟩) I.D.nt I.D.nt), (21, .slice (some ⟨B.kb, 0, none⟩) I.D.nt I.D.nt), (22, .slice (some ⟨B.vb, 0, none⟩) I.D.nt I.D.nt),
   (29, .slice (some ⟨rsB, 0, none⟩) I.lr I.lr), (30, rqv), (31, wtv), (32, .int .i64 i)]
theorem Kn.of {n : Nat} {M : List (Nat × Value)} {a : Act} (hs : a.tmps.size = n) (hd : a.defers = []) (h : ∀ e ∈ M, a.tmps[e.1]? = some e.2) : Kn n M a := by
  refine ⟨hs, hd, ?_⟩
  induction M with
  | nil => intro k v hk; cases hk
  | cons e M ih =>
    intro k v hk
    unfold lk at hk
    cases hb : Nat.beq e.1 k with
    | true =>
      rw [hb] at hk
      cases hk
      rw [← Nat.eq_of_beq_eq_true hb]
      exact h e (List.mem_cons_self ..)
    | false =>
      rw [hb] at hk
      exact ih (fun e' h' => h e' (List.mem_cons_of_mem _ h')) k v hk
theorem Lv3.kn {I : Inp} {psB mbB tsB rsB : Nat} {B : MB} {i : Nat} {rqv wtv : Value} {a : Act} (h : Lv3 I psB mbB tsB rsB B i rqv wtv a) : Kn 831 (L3 I psB mbB tsB rsB B i rqv wtv) a := by
  refine Kn.of h.size h.defers ?_
  unfold L3
  simp only [List.mem_cons, List.not_mem_nil, or_false]
  rintro e (rfl | rfl | rfl | rfl | rfl | rfl | rfl | rfl | rfl | rfl | rfl | rfl | rfl | rfl | rfl | rfl)
  · exact h.s0
  · exact h.s1
  · exact h.s2
  · exact h.s10
  · exact h.s11
  · exact h.s12
  · exact h.s17
  · exact h.s18
  · exact h.s19
  · exact h.s20
  · exact h.s21
  · exact h.s22
  · exact h.s29
  · exact h.s30
  · exact h.s31
  · exact h.s32
theorem Kn.lv3 {I : Inp} {psB mbB tsB rsB : Nat} {B : MB} {i : Nat} {rqv wtv : Value} {a : Act} (h : Kn 831 (L3 I psB mbB tsB rsB B i rqv wtv) a) : Lv3 I psB mbB tsB rsB B i rqv wtv a :=
  ⟨⟨⟨⟨h.size, h.defers, h.get 0 _ rfl, h.get 1 _ rfl, h.get 2 _ rfl⟩, h.get 10 _ rfl, h.get 11 _ rfl, h.get 12 _ rfl⟩, h.get 17 _ rfl, h.get 18 _ rfl, h.get 19 _ rfl, h.get 20 _ rfl, h.get 21 _ rfl, h.get 22 _ rfl⟩, h.get 29 _ rfl, h.get 30 _ rfl, h.get 31 _ rfl, h.get 32 _ rfl⟩
theorem Kn.int {n : Nat} {L : List (Nat × Value)} {a : Act} (h : Kn n L a) {k m : Nat} (e : lk L k = some (.int .i64 m)) : (intOf (a.tmps.getD k undef)).toNat = m := intAt (h.get _ _ e)
/-! ### no key twice -/
def Nd : KV → Prop
  | [] => True
  | e :: l => (∀ e' ∈ l, e'.1 ≠ e.1) ∧ Nd l
theorem mem_put {k : Key} {v : Int} : ∀ {l : KV} {e : Key × Int}, e ∈ put k v l → e.1 = k ∨ e ∈ l
  | [], e, h => by
    simp only [put, List.mem_singleton] at h
    subst h; exact .inl rfl
  | e0 :: l, e, h => by
    unfold put at h
    by_cases h0 : e0.1 = k
    · rw [if_pos h0] at h
      rcases List.mem_cons.1 h with rfl | h
      · exact .inl rfl
      · exact .inr (List.mem_cons_of_mem _ h)
    · rw [if_neg h0] at h
      rcases List.mem_cons.1 h with rfl | h
      · exact .inr (List.mem_cons_self ..)
      · rcases mem_put h with h | h
        · exact .inl h
        · exact .inr (List.mem_cons_of_mem _ h)
theorem Nd.put {k : Key} {v : Int} : ∀ {l : KV}, Nd l → Nd (put k v l)
  | [], _ => ⟨fun _ h => by simp at h, trivial⟩
  | e :: l, h => by
    unfold Ybulkeyzg.put
    by_cases h0 : e.1 = k
    · rw [if_pos h0]
      exact ⟨fun e' he => by have := h.1 e' he; rw [h0] at this; exact this, h.2⟩
    · rw [if_neg h0]
      refine ⟨fun e' he => ?_, Nd.put h.2⟩
      rcases mem_put he with h1 | h1
      · rw [h1]; exact fun e => h0 e.symm
      · exact h.1 e' h1
theorem Nd.idx : ∀ {l : KV}, Nd l → ∀ {x : Nat} {e : Key × Int}, l[x]? = some e → idx e.1 l = some x ∧ get e.1 l = e.2
  | [], _, _, _, h => by simp at h
  | a :: l, h, 0, e, he => by
    simp at he
    subst he
    exact ⟨if_pos rfl, if_pos rfl⟩
  | a :: l, h, x + 1, e, he => by
    have he' : l[x]? = some e := by simpa using he
    have hne : a.1 ≠ e.1 := fun hh => h.1 e (List.mem_of_getElem? he') hh.symm
    obtain ⟨h1, h2⟩ := Nd.idx h.2 he'
    refine ⟨?_, ?_⟩
    · unfold Ybulkeyzg.idx; rw [if_neg hne, h1]; rfl
    · unfold Ybulkeyzg.get; rw [if_neg hne, h2]
def NdS (σ : Nat → TS) : Prop := ∀ t, Nd (σ t).kv
theorem NdS.upd {σ : Nat → TS} (h : NdS σ) (i : Nat) {τ : TS} (hτ : Nd τ.kv) : NdS (upd σ i τ) := fun t => by
  by_cases e : t = i
  · subst e; rw [upd_same]; exact hτ
  · rw [upd_other _ _ e]; exact h t
theorem keepT_nd {τ : TS} (h : Nd τ.kv) (k : Key) (heap : Int) (nw : Bool) (b : Int) : Nd (keepT τ k heap nw b).kv := by
  unfold keepT
  split
  · exact h
  · exact h.put
theorem Dat.hN_nd (D : Dat) (i : Nat) {σ : Nat → TS} (h : NdS σ) : ∀ j, NdS (D.hN i σ j)
  | 0 => h
  | j + 1 => by
    have ih := Dat.hN_nd D i h j
    show NdS (D.hStep i j (D.hN i σ j))
    unfold Dat.hStep
    split
    · exact ih
    · exact ih.upd _ (keepT_nd (ih _) _ _ _ _)
theorem Dat.wN_nd (D : Dat) (i : Nat) {σ : Nat → TS} (h : NdS σ) : ∀ j, NdS (D.wN i σ j)
  | 0 => h
  | j + 1 => by
    have ih := Dat.wN_nd D i h j
    exact ih.upd _ (ih _)
theorem Dat.N_nd (D : Dat) {σ : Nat → TS} (h : NdS σ) : ∀ i, NdS (D.N σ i)
  | 0 => h
  | i + 1 => D.wN_nd i (D.hN_nd i (Dat.N_nd D h i) _) _
theorem Inp.kvN_nd (I : Inp) (i : Nat) : ∀ j, Nd (I.kvN i j)
  | 0 => trivial
  | j + 1 => (Inp.kvN_nd I i j).put
theorem Inp.σ0_nd (I : Inp) : NdS I.σ0 := fun t => by
  unfold Inp.σ0
  split
  · exact I.kvN_nd t _
  · exact trivial

/-! ### loops by an invariant with its measure -/
theorem least {p : Nat → Prop} (h : ∃ n, p n) : ∃ n, p n ∧ ∀ m, p m → n ≤ m := by
  obtain ⟨n, hn⟩ := h
  induction n using Nat.strongRecOn with
  | _ n ih =>
    by_cases hh : ∃ m, m < n ∧ p m
    · obtain ⟨m, hm, hp⟩ := hh
      exact ih m hm hp
    · exact ⟨n, hn, fun m hm => Nat.le_of_not_lt fun hlt => hh ⟨m, hlt, hm⟩⟩
open Classical in
theorem loop_n {P : Program} {id : Nat} {c : Code} {Q : Exit → Act → World → Prop} {a : Act} {w : World} (K : Act → World → Prop) (I : Nat → Act → World → Prop) {n : Nat} (h0 : I n a w)
    (round : ∀ n a w (R : Act → World → Prop), I n a w → (∀ m a' w', m < n → I m a' w' → R a' w') → c.wp P (Exit.then R (Exit.inBlock id (Exit.then K Q))) a w) : (Code.block id (.loop c)).wp P (Exit.then K Q) a w := by
  refine wp_block_loop K (fun a w => ∃ n, I n a w) (fun a w => if h : ∃ n, I n a w then Classical.choose (least h) else 0) ⟨n, h0⟩ ?_
  intro a w h
  have hs := Classical.choose_spec (least h)
  rw [dif_pos h]
  refine round _ a w _ hs.1 fun m a' w' hm hI => ⟨⟨m, hI⟩, ?_⟩
  have h' : ∃ n, I n a' w' := ⟨m, hI⟩
  rw [dif_pos h']
  exact Nat.lt_of_le_of_lt ((Classical.choose_spec (least h')).2 m hI) hm

section
variable {ρ : Operand → Value} {o : Oper} {w : World}
theorem r_ld57 (x : Operand) (ho : o.op = .load 57 x) {b q : Nat} {v0 v1 v2 : Value} (h : ρ x = .pointer (some ⟨b, q, none⟩)) (c0 : w.cell? ⟨b, q, none⟩ = some v0) (c1 : w.cell? ⟨b, q + 1, none⟩ = some v1) (c2 : w.cell? ⟨b, q + 2, none⟩ = some v2) : (execOp ρ o).run Yba.prog w = .ok (.value (.agg #[v0, v1, v2])) w := by
  have u1 := Yba.underlying57
  unfold execOp; rw [ho]; simp only; go_simp
end
section
variable {I : Inp} {w0 w : World} {lab : Lab} {A : Adr} {psB mbB tsB rsB : Nat} {B : MB} {ks vs : Nat → Value} {rqv wtv : Value} {β : Nat → Int}
theorem FS.tcells (h : FS I w0 lab w A psB mbB tsB rsB B ks vs rqv wtv β) {t : Nat} (ht : t < I.D.nt) : w.cell? ⟨A.ta t, 9, none⟩ = some (.int .i64 (I.D.N I.σ0 I.lr t).s) ∧ w.cell? ⟨A.ta t, 10, none⟩ = some (.int .i64 (I.D.N I.σ0 I.lr t).f) ∧ w.cell? ⟨A.ta t, 11, none⟩ = some (.map (some (A.ma t))) ∧ w.cell? ⟨A.ta t, 12, none⟩ = some (.map none) := by
  obtain ⟨-, -, hT, -⟩ := h.trx t ht
  obtain ⟨f, h1, h9, h10, h11, h12⟩ := hT.obj
  exact ⟨by rw [← h9]; exact h1.cell (by omega), by rw [← h10]; exact h1.cell (by omega), by rw [← h11]; exact h1.cell (by omega), by rw [← h12]; exact h1.cell (by omega)⟩
theorem FS.pcell (h : FS I w0 lab w A psB mbB tsB rsB B ks vs rqv wtv β) {p : Nat} (hp : p < I.D.np) : w.cell? ⟨psB, p, none⟩ = some (ptr (A.pa p)) := by
  have := h.pg.rps.cell (i := p) hp
  rw [upto_lt _ _ hp] at this
  exact this
theorem FS.look (h : FS I w0 lab w A psB mbB tsB rsB B ks vs rqv wtv β) {t x : Nat} (ht : t < I.D.nt) {e : Key × Int} (he : (I.D.N I.σ0 I.lr t).kv[x]? = some e) :
    e.1.1 < I.D.np ∧ (Instr.lookup 46 (.map (some (A.ma t))) (keyV A.pa e.1) true).run Yba.prog w = .ok (.tuple #[.int .i64 e.2, .bool true]) w := by
  obtain ⟨-, -, hT, hOk⟩ := h.trx t ht
  obtain ⟨h1, h2⟩ := (I.D.N_nd I.σ0_nd I.lr t).idx he
  have hk := hOk e (List.mem_of_getElem? he)
  have := lookup2_run h.pg.pages.apart hT.map hOk hk (by rw [h1]; rfl)
  rw [h2] at this
  exact ⟨hk.1, this⟩
end
end Go.Proofs.Ybulkeyzg
