import Derived.Test.YbulkexuoProg
import Derived.WalkKit
import Derived.BigQuiet
import Derived.Deep.QuietTactic
import Derived.Deep.RegionHeld3
import Derived.Deep.OwnRows
import Derived.Below
namespace Go.Proofs.Ybulkexuo
open Go.RowKit

/-- a part of a body, by the way to it: 0 left, 1 right -/
def nav : List Nat → Code → Code
  | [], c => c
  | d :: p, .seq a b => if d = 0 then nav p a else nav p b
  | _ :: p, .block _ c => nav p c
  | _ :: p, .loop c => nav p c
  | d :: p, .cond _ a b => if d = 0 then nav p a else nav p b
  | _, _ => .skip
def ptr (b : Nat) : Value := .pointer (some ⟨b, 0, none⟩)

section
variable {a : Act} {d k : Nat} {v : Value}
theorem put_size (a : Act) (d : Option Nat) (v : Value) : (a.put d v).tmps.size = a.tmps.size := by cases d <;> simp [Act.put]
theorem put_get (h : d ≠ k) : (a.put (some d) v).tmps[k]? = a.tmps[k]? := by simp [Act.put, Array.getElem?_setIfInBounds_ne h]
theorem put_self (h : d < a.tmps.size) : (a.put (some d) v).tmps[d]? = some v := by simp [Act.put, h]
theorem put_defers (a : Act) (d : Option Nat) (v : Value) : (a.put d v).defers = a.defers := by cases d <;> rfl
theorem ev_of (h : a.tmps[k]? = some v) : a.eval (.tmp k) = v := by simp [Act.eval, h]
end

/-! ### a frame by what is known of its slots -/
def lk : List (Nat × Value) → Nat → Option Value
  | [], _ => none
  | e :: L, n => match Nat.beq e.1 n with
    | true => some e.2
    | false => lk L n
structure Kn (n : Nat) (L : List (Nat × Value)) (a : Act) : Prop where
  size : a.tmps.size = n
  defers : a.defers = []
  get : ∀ k v, lk L k = some v → a.tmps[k]? = some v
def rd (L : List (Nat × Value)) : Operand → Option Value
  | .tmp k => lk L k
  | .const c => some c
  | .func f => some (.func (.func f) #[] #[])
  | _ => none
def Rho (L : List (Nat × Value)) (ρ : Operand → Value) : Prop := ∀ x v, rd L x = some v → ρ x = v
def allK (L : List (Nat × Value)) : List (Nat × Value) → Prop
  | [] => True
  | e :: M => lk L e.1 = some e.2 ∧ allK L M

section
variable {n : Nat} {L M : List (Nat × Value)} {a : Act}
theorem Kn.rho (h : Kn n L a) : Rho L a.eval := fun x v hx => by
  cases x with
  | tmp k => exact ev_of (h.get k v hx)
  | const c => exact Option.some.inj hx
  | func f => exact Option.some.inj hx
  | _ => cases hx
theorem Kn.add (h : Kn n L a) {k : Nat} {v : Value} (e : a.tmps[k]? = some v) : Kn n ((k, v) :: L) a := by
  refine ⟨h.size, h.defers, fun q u hq => ?_⟩
  unfold lk at hq
  cases hb : Nat.beq k q with
  | true =>
    simp only [hb] at hq
    cases hq
    rw [← Nat.eq_of_beq_eq_true hb]
    exact e
  | false =>
    simp only [hb] at hq
    exact h.get q u hq
theorem Kn.put (h : Kn n L a) {d : Nat} (hd : d < n) (v : Value) : Kn n ((d, v) :: L) (a.put (some d) v) := by
  refine ⟨by rw [put_size]; exact h.size, by rw [put_defers]; exact h.defers, fun k u hk => ?_⟩
  unfold lk at hk
  by_cases e : d = k
  · subst e
    rw [Nat.beq_refl] at hk
    cases hk
    exact put_self (by rw [h.size]; exact hd)
  · have : Nat.beq d k = false := by
      cases hb : Nat.beq d k with
      | true => exact absurd (Nat.eq_of_beq_eq_true hb) e
      | false => rfl
    simp only [this] at hk
    rw [put_get e]
    exact h.get k u hk
theorem lk_sub (h : allK L M) : ∀ k v, lk M k = some v → lk L k = some v := by
  induction M with
  | nil => intro k v hk; cases hk
  | cons e M ih =>
    intro k v hk
    unfold lk at hk
    cases hb : Nat.beq e.1 k with
    | true =>
      rw [hb] at hk
      cases hk
      rw [← Nat.eq_of_beq_eq_true hb]
      exact h.1
    | false =>
      rw [hb] at hk
      exact ih h.2 k v hk
theorem Kn.sub (h : Kn n L a) (hs : allK L M) : Kn n M a := ⟨h.size, h.defers, fun k v hk => h.get k v (lk_sub hs k v hk)⟩
theorem Kn.of (hs : a.tmps.size = n) (hd : a.defers = []) (h : ∀ e ∈ M, a.tmps[e.1]? = some e.2) : Kn n M a := by
  refine ⟨hs, hd, ?_⟩
  induction M with
  | nil => intro k v hk; cases hk
  | cons e M ih =>
    intro k v hk
    unfold lk at hk
    cases hb : Nat.beq e.1 k with
    | true =>
      rw [hb] at hk
      cases hk
      rw [← Nat.eq_of_beq_eq_true hb]
      exact h e (List.mem_cons_self ..)
    | false =>
      rw [hb] at hk
      exact ih (fun e' h' => h e' (List.mem_cons_of_mem _ h')) k v hk
/-- the frame of a call: its arguments are known -/
theorem kn_args (args : List Value) (f : Nat) (L : List (Nat × Value)) (h : ∀ e ∈ L, args[e.1]? = some e.2) (hf : args.length ≤ f) : Kn f L { tmps := args.toArray ++ Array.replicate (f - args.toArray.size) undef, defers := [] } := by
  refine Kn.of (by simp; omega) rfl fun e he => ?_
  have := h e he
  have hlt : e.1 < args.length := (List.getElem?_eq_some_iff.1 this).1
  show (args.toArray ++ _)[e.1]? = _
  rw [Array.getElem?_append_left (by simpa using hlt)]
  simpa using this
end

section
variable {P : Program} {ops : Array Oper} {C : World → Prop} {QA : Act → Prop} {Q : Exit → Act → World → Prop} {a : Act} {w w' : World} {o : Oper} {rest : List Oper} {v : Value} {n : Nat} {L : List (Nat × Value)} {b pol : Bool}
theorem wanted_of {k g : Nat} (hg : o.guard = some (k, pol)) (hk : (ops[k]?).bind (·.dst) = some g) (hv : a.tmps[g]? = some (.bool b)) : Region.wanted o (yielded ops a.tmps) = (b == pol) := by
  unfold Region.wanted yielded
  rw [hg]
  simp only [hk, Option.bind_some, hv]
  cases b <;> cases pol <;> rfl
theorem l_val (d : Nat) (hd : o.dst = some d) (hw : Region.wanted o (yielded ops a.tmps) = true) (h : (execOp a.eval o).run P w = .ok (.value v) w') (hk : wpList P ops Q rest (a.put (some d) v) w') : wpList P ops Q (o :: rest) a w :=
  wpList_step fun K hK => by
    rw [if_pos hw]
    unfold Oper.wp
    rw [h]
    have : K (a.put o.dst v) w' := hK _ _ (by rw [hd]; exact hk)
    exact this
theorem l_call {fn : Nat} {args : Array Value} {R : Ending → World → Prop} (d : Option Nat) (hd : o.dst = d) (hw : Region.wanted o (yielded ops a.tmps) = true) (h : (execOp a.eval o).run P w = .ok (.enter fn args) w) (hc : Calls P fn args w R)
    (hR : ∀ e w', R e w' → ∃ v, e = .returned v ∧ wpList P ops Q rest (a.put d v) w') : wpList P ops Q (o :: rest) a w :=
  wpList_step fun K hK => by
    rw [if_pos hw]
    unfold Oper.wp
    rw [h]
    refine Calls.mono hc fun e w' hr => ?_
    obtain ⟨v, rfl, hk⟩ := hR e w' hr
    have : K (a.put o.dst v) w' := hK _ _ (by rw [hd]; exact hk)
    exact this
theorem l_store (hd : o.dst = none) (hw : Region.wanted o (yielded ops a.tmps) = true) (h : (execOp a.eval o).run P w = .ok .skip w') (hk : wpList P ops Q rest a w') : wpList P ops Q (o :: rest) a w :=
  wpList_step fun K hK => by
    rw [if_pos hw]
    unfold Oper.wp
    rw [h]
    have : K (a.put o.dst undef) w' := hK _ _ (by rw [hd]; exact hk)
    exact this
theorem plainW (hg : o.guard = none) : Region.wanted o (yielded ops a.tmps) = true := by simp [Region.wanted, hg]
theorem q_val (d : Nat) (hd : o.dst = some d) (hw : Region.wanted o (yielded ops a.tmps) = true) (h : ∀ w', C w' → (execOp a.eval o).run P w' = .ok (.value v) w') (hk : wpQuiet P ops C QA rest (a.put (some d) v)) : wpQuiet P ops C QA (o :: rest) a :=
  BigFrame.wpQuiet_want hw fun K hK => ⟨v, fun w' hw' => by unfold Oper.quietAt; rw [h w' hw']; exact ⟨rfl, rfl⟩, hK _ (by rw [hd]; exact hk)⟩

theorem kq (hK : Kn n L a) (d : Nat) (hd : o.dst = some d) (hn : d < n) (hg : o.guard = none) (h : ∀ ρ, Rho L ρ → ∀ w', C w' → (execOp ρ o).run P w' = .ok (.value v) w') (hk : ∀ a', Kn n ((d, v) :: L) a' → wpQuiet P ops C QA rest a') : wpQuiet P ops C QA (o :: rest) a :=
  q_val d hd (plainW hg) (h _ hK.rho) (hk _ (hK.put hn v))
theorem kqg (hK : Kn n L a) (d k g : Nat) (hd : o.dst = some d) (hn : d < n) (hg : o.guard = some (k, pol)) (hk' : (ops[k]?).bind (·.dst) = some g) (hv : lk L g = some (.bool b)) (hb : b = pol) (h : ∀ ρ, Rho L ρ → ∀ w', C w' → (execOp ρ o).run P w' = .ok (.value v) w') (hk : ∀ a', Kn n ((d, v) :: L) a' → wpQuiet P ops C QA rest a') : wpQuiet P ops C QA (o :: rest) a :=
  q_val d hd (by rw [wanted_of hg hk' (hK.get _ _ hv), hb]; simp) (h _ hK.rho) (hk _ (hK.put hn v))
theorem kqu (hK : Kn n L a) (d k g : Nat) (hd : o.dst = some d) (hn : d < n) (hg : o.guard = some (k, pol)) (hk' : (ops[k]?).bind (·.dst) = some g) (hv : lk L g = some (.bool b)) (hb : b = !pol) (hk : ∀ a', Kn n ((d, undef) :: L) a' → wpQuiet P ops C QA rest a') : wpQuiet P ops C QA (o :: rest) a :=
  BigFrame.wpQuiet_skip (by rw [wanted_of hg hk' (hK.get _ _ hv), hb]; cases pol <;> rfl) (by rw [hd]; exact hk _ (hK.put hn undef))
theorem kl (hK : Kn n L a) (d : Nat) (hd : o.dst = some d) (hn : d < n) (hg : o.guard = none) (h : ∀ ρ, Rho L ρ → (execOp ρ o).run P w = .ok (.value v) w') (hk : ∀ a', Kn n ((d, v) :: L) a' → wpList P ops Q rest a' w') : wpList P ops Q (o :: rest) a w :=
  l_val d hd (plainW hg) (h _ hK.rho) (hk _ (hK.put hn v))
theorem klg (hK : Kn n L a) (d k g : Nat) (hd : o.dst = some d) (hn : d < n) (hg : o.guard = some (k, pol)) (hk' : (ops[k]?).bind (·.dst) = some g) (hv : lk L g = some (.bool b)) (hb : b = pol) (h : ∀ ρ, Rho L ρ → (execOp ρ o).run P w = .ok (.value v) w') (hk : ∀ a', Kn n ((d, v) :: L) a' → wpList P ops Q rest a' w') : wpList P ops Q (o :: rest) a w :=
  l_val d hd (by rw [wanted_of hg hk' (hK.get _ _ hv), hb]; simp) (h _ hK.rho) (hk _ (hK.put hn v))
theorem klu (hK : Kn n L a) (d k g : Nat) (hd : o.dst = some d) (hn : d < n) (hg : o.guard = some (k, pol)) (hk' : (ops[k]?).bind (·.dst) = some g) (hv : lk L g = some (.bool b)) (hb : b = !pol) (hk : ∀ a', Kn n ((d, undef) :: L) a' → wpList P ops Q rest a' w) : wpList P ops Q (o :: rest) a w :=
  wpList_step fun K hK' => by
    rw [if_neg (by rw [wanted_of hg hk' (hK.get _ _ hv), hb]; cases pol <;> exact Bool.false_ne_true)]
    exact hK' _ _ (by rw [hd]; exact hk _ (hK.put hn undef))
theorem kst (hK : Kn n L a) (hd : o.dst = none) (hg : o.guard = none) (h : ∀ ρ, Rho L ρ → (execOp ρ o).run P w = .ok .skip w') (hk : wpList P ops Q rest a w') : wpList P ops Q (o :: rest) a w :=
  l_store hd (plainW hg) (h _ hK.rho) hk
theorem kc (hK : Kn n L a) (d : Nat) (hd : o.dst = some d) (hn : d < n) (hg : o.guard = none) {fn : Nat} {args : Array Value} {R : Ending → World → Prop} (h : ∀ ρ, Rho L ρ → (execOp ρ o).run P w = .ok (.enter fn args) w) (hc : Calls P fn args w R)
    (hR : ∀ e w', R e w' → ∃ v, e = .returned v ∧ ∀ a', Kn n ((d, v) :: L) a' → wpList P ops Q rest a' w') : wpList P ops Q (o :: rest) a w :=
  l_call (some d) hd (plainW hg) (h _ hK.rho) hc fun e w' hr => by
    obtain ⟨v, h1, h2⟩ := hR e w' hr
    exact ⟨v, h1, h2 _ (hK.put hn v)⟩
theorem kcg (hK : Kn n L a) (d k g : Nat) (hd : o.dst = some d) (hn : d < n) (hg : o.guard = some (k, pol)) (hk' : (ops[k]?).bind (·.dst) = some g) (hv : lk L g = some (.bool b)) (hb : b = pol) {fn : Nat} {args : Array Value} {R : Ending → World → Prop} (h : ∀ ρ, Rho L ρ → (execOp ρ o).run P w = .ok (.enter fn args) w) (hc : Calls P fn args w R)
    (hR : ∀ e w', R e w' → ∃ v, e = .returned v ∧ ∀ a', Kn n ((d, v) :: L) a' → wpList P ops Q rest a' w') : wpList P ops Q (o :: rest) a w :=
  l_call (some d) hd (by rw [wanted_of hg hk' (hK.get _ _ hv), hb]; simp) (h _ hK.rho) hc fun e w' hr => by
    obtain ⟨v, h1, h2⟩ := hR e w' hr
    exact ⟨v, h1, h2 _ (hK.put hn v)⟩
end

/-! ### regions that draw and write -/
section
variable {P : Program} {ops : Array Oper} {S : World → Prop} {Q : Exit → Act → World → Prop} {a : Act} {w : World} {oi : Oper} {v : Value} {n : Nat} {L : List (Nat × Value)}
theorem kt (hK : Kn n L a) {i : Nat} (d : Nat) {fuel : Nat} {listed : Array Bool} (hi : ops[i]? = some oi) (hs : Region.noSelect ops = true) (hf : Region.free .any ops listed i = true) (hr : (Region.ready .any ops listed).contains i = true)
    (hQ : ∀ c a w, Q (.panic c) (a.put oi.dst v) w → Q (.panic c) a w) (hS : S w) (hd : oi.dst = some d) (hn : d < n) (hg : oi.guard = none) (h : ∀ ρ, Rho L ρ → ∀ w, S w → (execOp ρ oi).run P w = .ok (.value v) w)
    (hk : ∀ a', Kn n ((d, v) :: L) a' → wpAnyH P .any ops Q S fuel (listed.setIfInBounds i true) a' w) : wpAnyH P .any ops Q S (fuel + 1) listed a w :=
  wpAnyH_take hi hs hf hr hQ (Or.inl ⟨plainW hg, h _ hK.rho⟩) hS (by rw [hd]; exact hk _ (hK.put hn v))
end

/-! ### loops by an invariant with its measure -/
theorem least {p : Nat → Prop} (h : ∃ n, p n) : ∃ n, p n ∧ ∀ m, p m → n ≤ m := by
  obtain ⟨n, hn⟩ := h
  induction n using Nat.strongRecOn with
  | _ n ih =>
    by_cases hh : ∃ m, m < n ∧ p m
    · obtain ⟨m, hm, hp⟩ := hh
      exact ih m hm hp
    · exact ⟨n, hn, fun m hm => Nat.le_of_not_lt fun hlt => hh ⟨m, hlt, hm⟩⟩
open Classical in
theorem loop_n {P : Program} {id : Nat} {c : Code} {Q : Exit → Act → World → Prop} {a : Act} {w : World} (K : Act → World → Prop) (I : Nat → Act → World → Prop) {n : Nat} (h0 : I n a w)
    (round : ∀ n a w (R : Act → World → Prop), I n a w → (∀ m a' w', m < n → I m a' w' → R a' w') → c.wp P (Exit.then R (Exit.inBlock id (Exit.then K Q))) a w) : (Code.block id (.loop c)).wp P (Exit.then K Q) a w := by
  refine wp_block (wp_loop (fun a w => ∃ n, I n a w) (fun a w => if h : ∃ n, I n a w then Classical.choose (least h) else 0) ⟨n, h0⟩ ?_)
  intro a w h
  have hs := Classical.choose_spec (least h)
  rw [dif_pos h]
  refine round _ a w _ hs.1 fun m a' w' hm hI => ⟨⟨m, hI⟩, ?_⟩
  have h' : ∃ n, I n a' w' := ⟨m, hI⟩
  rw [dif_pos h']
  exact Nat.lt_of_le_of_lt ((Classical.choose_spec (least h')).2 m hI) hm
theorem wp_then {P : Program} {c : Code} {Q : Exit → Act → World → Prop} {a : Act} {w : World} (h : c.wp P (Exit.then (fun a w => Q .normal a w) Q) a w) : c.wp P Q a w := by
  have e : Exit.then (fun a w => Q .normal a w) Q = Q := by
    funext e a w
    cases e <;> rfl
  rwa [e] at h
/-- the return of one slot, of two -/
theorem kret1 {P : Program} {fn : Func} {w : World} {a : Act} {n s : Nat} {L : List (Nat × Value)} {v : Value} {R : Ending → World → Prop} (hK : Kn n L a) (hr : fn.results = #[.tmp s]) (hv : lk L s = some v) (h : R (.returned v) w) : bodyPost P fn R .ret a w := by
  refine bodyPost_ret (results_tmp hr _ _ _) hK.defers ?_
  rw [Array.getD_eq_getD_getElem?, hK.get s _ hv]
  exact h
theorem kret2 {P : Program} {fn : Func} {w : World} {a : Act} {n s t : Nat} {L : List (Nat × Value)} {u v : Value} {R : Ending → World → Prop} (hK : Kn n L a) (hr : fn.results = #[.tmp s, .tmp t]) (hu : lk L s = some u) (hv : lk L t = some v) (h : R (.returned (.tuple #[u, v])) w) : bodyPost P fn R .ret a w := by
  refine bodyPost_ret (results_tmp2 hr _ _ _) hK.defers ?_
  rw [Array.getD_eq_getD_getElem?, Array.getD_eq_getD_getElem?, hK.get s _ hu, hK.get t _ hv]
  exact h
end Go.Proofs.Ybulkexuo
