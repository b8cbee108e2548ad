import Derived.Test.YbulkeacaC5
import Derived.OrdersHeld
import Derived.StillTail
import Derived.RegionTactic
namespace Go.Proofs.Ybulkeaca.CW
open Go.RowKit Go.Proofs.Ybulkeaca.Kit

/-! ### A region that draws its order, whose last operations are stores: till operation number k (the first store) has come up the worlds meet T. (After the kit's law 'wpAnyH_first', with T asked only till then.) -/
section
variable {P : Program} {ops : Array Oper} {Q : Exit → Act → World → Prop} {md : Region.Mode} {T : World → Prop} {k : Nat}

def condK (k : Nat) (T : World → Prop) (l : Array Bool) (w : World) : Prop := l.getD k true = false → T w
def wpAnyK (P : Program) (md : Region.Mode) (ops : Array Oper) (Q : Exit → Act → World → Prop) (k : Nat) (T : World → Prop) : Nat → Array Bool → Act → World → Prop
  | 0, listed, a, w => Region.ready md ops listed = [] ∧ Q .normal a w
  | fuel + 1, listed, a, w =>
    (Region.ready md ops listed = [] → Q .normal a w) ∧
    ∀ i ∈ Region.ready md ops listed, wpOp P ops Q i (fun a' w' => condK k T (listed.setIfInBounds i true) w' ∧ wpAnyK P md ops Q k T fuel (listed.setIfInBounds i true) a' w') a w
theorem wpAny_of_K : ∀ (fuel : Nat) (listed : Array Bool) (a : Act) (w : World), wpAnyK P md ops Q k T fuel listed a w → wpAny P md ops Q fuel listed a w
  | 0, _, _, _, h => h
  | fuel + 1, _, _, _, h => ⟨h.1, fun i hi => wpOp_mono (fun a' w' h' => wpAny_of_K fuel _ a' w' h'.2) (h.2 i hi)⟩

theorem not_waiting {i j : Nat} {listed : Array Bool} (hw : Region.waitsFor md ops j i = true) (hj : j ∈ Region.ready md ops listed) (hi : i ∈ Region.ready md ops listed) : False := by
  obtain ⟨hjun, oj, hoj, hall⟩ := mem_ready.1 hj
  obtain ⟨oj', hoj', e, he, hb, heq⟩ := Region.waitsFor_spec hw
  have : oj' = oj := Option.some.inj (hoj'.symm.trans hoj)
  subst this
  have h1 := hall e he hb
  have h0 := (mem_ready.1 hi).1
  rw [heq] at h1
  rcases Nat.lt_or_ge i listed.size with h' | h'
  · simp [h'] at h0 h1; rw [h0] at h1; cases h1
  · simp [Array.getElem?_eq_none h'] at h1

theorem wpAnyK_first {i : Nat} {oi : Oper} {v : Value} {U : World → Prop} (hU : (∀ w, U w) ∨ ((∀ w, T w → U w) ∧ Region.waitsFor md ops k i = true)) (hik : i ≠ k) (hi : ops[i]? = some oi) (hsel : ∀ (j : Nat) (o : Oper) cs b, ops[j]? = some o → o.op ≠ .select cs b)
    (hQ : ∀ c a w, Q (.panic c) (a.put oi.dst v) w → Q (.panic c) a w) :
    ∀ (fuel : Nat) (listed : Array Bool) (a : Act) (w : World),
      (∀ j oj, ops[j]? = some oj → j ≠ i → listed.getD j true = false → (∀ e ∈ oj.after, Region.binds md e = true → e.on ≠ i) → oi.apart ops oj = true) →
      i ∈ Region.ready md ops listed → YieldsIf P ops U oi v a → condK k T listed w → U w → ((∀ w, U w) ∨ listed.getD k true = false) →
      wpAnyK P md ops Q k T fuel (listed.setIfInBounds i true) (a.put oi.dst v) w → wpAnyK P md ops Q k T (fuel + 1) listed a w := by
  intro fuel
  induction fuel with
  | zero =>
    intro listed a w _ hr hy hC hS _ H
    refine ⟨fun h => (by rw [h] at hr; cases hr), fun j hj => ?_⟩
    by_cases hji : j = i
    · subst hji; exact hy.wpOp hi hS ⟨fun e => hC (by rw [getD_set_ne true hik] at e; exact e), H⟩
    · have := ready_mono hj hji
      rw [H.1] at this
      cases this
  | succ fuel ih =>
    intro listed a w hfree hr hy hC hS hkl H
    refine ⟨fun h => (by rw [h] at hr; cases hr), fun j hj => ?_⟩
    by_cases hji : j = i
    · subst hji; exact hy.wpOp hi hS ⟨fun e => hC (by rw [getD_set_ne true hik] at e; exact e), H⟩
    · have h1 := H.2 j (ready_mono hj hji)
      obtain ⟨hjun, oj, hoj, hall⟩ := mem_ready.1 hj
      have hnot : ∀ e ∈ oj.after, Region.binds md e = true → e.on ≠ i := fun e he hb heq => by
        have h1 := hall e he hb
        have h0 := (mem_ready.1 hr).1
        rw [heq] at h1
        rcases Nat.lt_or_ge i listed.size with h' | h'
        · simp [h'] at h0 h1; rw [h0] at h1; cases h1
        · simp [Array.getElem?_eq_none h'] at h1
      have h2 := wpOp_putIf hoj (hfree j oj hoj hji hjun hnot) (fun cs b => hsel i oi cs b hi) (fun cs b => hsel j oj cs b hoj) hQ hy h1
      have hfree' : ∀ k ok, ops[k]? = some ok → k ≠ i → (listed.setIfInBounds j true).getD k true = false →
          (∀ e ∈ ok.after, Region.binds md e = true → e.on ≠ i) → oi.apart ops ok = true := fun k ok hk hki hun hno => by
        refine hfree k ok hk hki ?_ hno
        by_cases hjk : j = k
        · subst hjk; exact hjun
        · rw [getD_set_ne true hjk] at hun; exact hun
      have hcond : ∀ w', condK k T ((listed.setIfInBounds i true).setIfInBounds j true) w' → condK k T (listed.setIfInBounds j true) w' := fun w' hc e => hc (by
        by_cases hjk : j = k
        · subst hjk
          rw [Array.setIfInBounds_comm _ _ (Ne.symm hji), getD_set_ne true (by exact hik)]; exact e
        · rw [getD_set_ne true hjk] at e ⊢; rw [getD_set_ne true hik]; exact e)
      have hUw : ∀ w', condK k T (listed.setIfInBounds j true) w' → U w' := fun w' hc => by
        rcases hU with hU | ⟨hU, hwt⟩
        · exact hU w'
        · have hjk : j ≠ k := fun e => by subst e; exact not_waiting hwt hj hr
          rcases hkl with hall' | hkl
          · exact hall' w'
          · exact hU w' (hc (by rw [getD_set_ne true hjk]; exact hkl))
      have hkl' : (∀ w, U w) ∨ (listed.setIfInBounds j true).getD k true = false := by
        rcases hU with hU | ⟨_, hwt⟩
        · exact .inl hU
        · exact hkl.imp id (fun e => by rw [getD_set_ne true (fun e => by subst e; exact not_waiting hwt hj hr)]; exact e)
      refine wpOp_mono (fun a' w' h3 => ⟨hcond w' h3.2.1, ih (listed.setIfInBounds j true) a' w' hfree' (ready_mono hr (Ne.symm hji)) h3.1 (hcond w' h3.2.1) (hUw w' (hcond w' h3.2.1)) hkl' ?_⟩) h2
      rw [Array.setIfInBounds_comm _ _ hji]
      exact h3.2.2

/-- Take number i first: what it yields hangs on no world. -/
theorem wpAnyK_any {i : Nat} {oi : Oper} {d : Option Tmp} {v : Value} {fuel : Nat} {listed : Array Bool} {a : Act} {w : World} (hi : ops[i]? = some oi) (hd : oi.dst = d) (hg : oi.guard = none)
    (hs : Region.noSelect ops = true) (hf : Region.free md ops listed i = true) (hr : (Region.ready md ops listed).contains i = true) (hik : (i == k) = false)
    (hQ : ∀ c a w, Q (.panic c) (a.put d v) w → Q (.panic c) a w) (hC : condK k T listed w) (hy : ∀ w, (execOp a.eval oi).run P w = .ok (.value v) w)
    (h : wpAnyK P md ops Q k T fuel (listed.setIfInBounds i true) (a.put d v) w) : wpAnyK P md ops Q k T (fuel + 1) listed a w := by
  subst hd
  exact wpAnyK_first (U := fun _ => True) (.inl fun _ => trivial) (by simpa using hik) hi (Region.noSelect_spec hs) hQ fuel listed a w (Region.free_spec hi hf) (by simpa using hr) (.inl ⟨by simp [Region.wanted, hg], fun w _ => hy w⟩) hC trivial (.inl fun _ => trivial) h
/-- Take number i first: it yields its value in every world that meets T, and the first store waits for it. -/
theorem wpAnyK_held {i : Nat} {oi : Oper} {d : Option Tmp} {v : Value} {fuel : Nat} {listed : Array Bool} {a : Act} {w : World} (hi : ops[i]? = some oi) (hd : oi.dst = d) (hg : oi.guard = none)
    (hs : Region.noSelect ops = true) (hf : Region.free md ops listed i = true) (hr : (Region.ready md ops listed).contains i = true) (hik : (i == k) = false) (hw : Region.waitsFor md ops k i = true) (hkl : listed.getD k true = false)
    (hQ : ∀ c a w, Q (.panic c) (a.put d v) w → Q (.panic c) a w) (hT : T w) (hy : ∀ w, T w → (execOp a.eval oi).run P w = .ok (.value v) w)
    (h : wpAnyK P md ops Q k T fuel (listed.setIfInBounds i true) (a.put d v) w) : wpAnyK P md ops Q k T (fuel + 1) listed a w := by
  subst hd
  exact wpAnyK_first (U := T) (.inr ⟨fun _ h => h, hw⟩) (by simpa using hik) hi (Region.noSelect_spec hs) hQ fuel listed a w (Region.free_spec hi hf) (by simpa using hr) (.inl ⟨by simp [Region.wanted, hg], hy⟩) (fun _ => hT) hT (.inr hkl) h
theorem wpAnyK_done {listed : Array Bool} {a : Act} {w : World} (hr : Region.ready md ops listed = []) (h : Q .normal a w) : ∀ fuel, wpAnyK P md ops Q k T fuel listed a w
  | 0 => ⟨hr, h⟩
  | _ + 1 => ⟨fun _ => h, by rw [hr]; simp⟩
/-- One of those that may come up. -/
def OneK (P : Program) (md : Region.Mode) (ops : Array Oper) (Q : Exit → Act → World → Prop) (k : Nat) (T : World → Prop) (fuel : Nat) (listed : Array Bool) (a : Act) (w : World) (i : Nat) : Prop :=
  wpOp P ops Q i (fun a' w' => condK k T (listed.setIfInBounds i true) w' ∧ wpAnyK P md ops Q k T fuel (listed.setIfInBounds i true) a' w') a w
theorem wpAnyK_1 {i : Nat} {fuel : Nat} {listed : Array Bool} {a : Act} {w : World} (hr : Region.ready md ops listed = [i]) (h : OneK P md ops Q k T fuel listed a w i) : wpAnyK P md ops Q k T (fuel + 1) listed a w :=
  ⟨fun h0 => (by rw [hr] at h0; cases h0), fun j hj => by rw [hr] at hj; simp at hj; subst hj; exact h⟩
theorem wpAnyK_2 {i j : Nat} {fuel : Nat} {listed : Array Bool} {a : Act} {w : World} (hr : Region.ready md ops listed = [i, j]) (h : OneK P md ops Q k T fuel listed a w i) (h' : OneK P md ops Q k T fuel listed a w j) : wpAnyK P md ops Q k T (fuel + 1) listed a w :=
  ⟨fun h0 => (by rw [hr] at h0; cases h0), fun x hx => by rw [hr] at hx; simp at hx; rcases hx with rfl | rfl; exact h; exact h'⟩
theorem wpAnyK_3 {i j l : Nat} {fuel : Nat} {listed : Array Bool} {a : Act} {w : World} (hr : Region.ready md ops listed = [i, j, l]) (h : OneK P md ops Q k T fuel listed a w i) (h' : OneK P md ops Q k T fuel listed a w j) (h'' : OneK P md ops Q k T fuel listed a w l) : wpAnyK P md ops Q k T (fuel + 1) listed a w :=
  ⟨fun h0 => (by rw [hr] at h0; cases h0), fun x hx => by rw [hr] at hx; simp at hx; rcases hx with rfl | rfl | rfl; exact h; exact h'; exact h''⟩
/-- It is carried out: its run is known. -/
theorem OneK.run {i : Nat} {oi : Oper} {d : Option Tmp} {v : Value} {fuel : Nat} {listed : Array Bool} {a : Act} {w w' : World} (hi : ops[i]? = some oi) (hd : oi.dst = d) (hg : oi.guard = none) (hrun : (execOp a.eval oi).run P w = .ok (.value v) w')
    (hC : condK k T (listed.setIfInBounds i true) w') (h : wpAnyK P md ops Q k T fuel (listed.setIfInBounds i true) (a.put d v) w') : OneK P md ops Q k T fuel listed a w i := by
  subst hd
  unfold OneK wpOp
  simp only [hi]
  rw [if_pos (by simp [Region.wanted, hg])]
  refine .inl ?_
  unfold Oper.wp
  rw [hrun]
  exact ⟨hC, h⟩
theorem OneK.skip {i : Nat} {oi : Oper} {fuel : Nat} {listed : Array Bool} {a : Act} {w w' : World} (hi : ops[i]? = some oi) (hd : oi.dst = none) (hg : oi.guard = none) (hrun : (execOp a.eval oi).run P w = .ok .skip w')
    (hC : condK k T (listed.setIfInBounds i true) w') (h : wpAnyK P md ops Q k T fuel (listed.setIfInBounds i true) a w') : OneK P md ops Q k T fuel listed a w i := by
  unfold OneK wpOp
  simp only [hi]
  rw [if_pos (by simp [Region.wanted, hg])]
  refine .inl ?_
  unfold Oper.wp
  rw [hrun]
  show condK k T _ _ ∧ wpAnyK P md ops Q k T fuel _ (a.put oi.dst undef) _
  rw [hd]
  exact ⟨hC, h⟩
theorem wp_region_K {id : Nat} {a : Act} {w : World} (k : Nat) (T : World → Prop) (hm : P.follows .mixedOrders = true) (h : wpAnyK P .any ops Q k T ops.size (Array.replicate ops.size false) a w.drew) : (Code.region id ops true).wp P Q a w :=
  wp_region_any hm (wpAny_of_K _ _ _ _ h)
/-- the frame under one name -/
theorem frame_gen {c : Code} {a : Act} {w : World} (h : ∀ a0, a0 = a → c.wp P Q a0 w) : c.wp P Q a w := h a rfl
theorem ops_gen {id : Nat} {b : Bool} {a : Act} {w : World} (h : ∀ o0, o0 = ops → (Code.region id o0 b).wp P Q a w) : (Code.region id ops b).wp P Q a w := h ops rfl
end

/-! ### single operations, the frame whatever -/
section
variable {a : Act} {o : Oper} {w : World}
theorem ev_same {a : Act} {n : Nat} {v : Value} (h : n < a.tmps.size) : (a.put (some n) v).eval (.tmp n) = v := by simp [Act.put, Act.eval, h]
theorem ev_other {a : Act} {n m : Nat} {v : Value} (h : m ≠ n) : (a.put (some n) v).eval (.tmp m) = a.eval (.tmp m) := by simp [Act.put, Act.eval, Array.getElem?_setIfInBounds_ne (Ne.symm h)]
theorem put_size (a : Act) (n : Nat) (v : Value) : (a.put (some n) v).tmps.size = a.tmps.size := by simp [Act.put]
variable {ρ : Operand → Value}
theorem ex_move {x : Operand} {v : Value} (h : o.op = .move x) (hx : ρ x = v) (w : World) : (execOp ρ o).run Yba.prog w = .ok (.value v) w := by
  unfold execOp; rw [h, ← hx]; rfl
theorem ex_nil {x : Operand} {b f : Nat} (h : o.op = .nilCheck x) (hx : ρ x = .pointer (some ⟨b, f, none⟩)) (w : World) : (execOp ρ o).run Yba.prog w = .ok (.value (.pointer (some ⟨b, f, none⟩))) w := by
  unfold execOp; rw [h]; simp [go_sem, hx]
theorem ex_f103_0 {x : Operand} {b f : Nat} (h : o.op = .fieldAddr 103 x 0) (hx : ρ x = .pointer (some ⟨b, f, none⟩)) (w : World) : (execOp ρ o).run Yba.prog w = .ok (.value (.pointer (some ⟨b, f + 0, none⟩))) w := by
  unfold execOp; rw [h]; simp [go_sem, hx]
theorem ex_f103_1 {x : Operand} {b f : Nat} (h : o.op = .fieldAddr 103 x 1) (hx : ρ x = .pointer (some ⟨b, f, none⟩)) (w : World) : (execOp ρ o).run Yba.prog w = .ok (.value (.pointer (some ⟨b, f + 1, none⟩))) w := by
  unfold execOp; rw [h]; simp [go_sem, hx]
theorem ex_f103_2 {x : Operand} {b f : Nat} (h : o.op = .fieldAddr 103 x 2) (hx : ρ x = .pointer (some ⟨b, f, none⟩)) (w : World) : (execOp ρ o).run Yba.prog w = .ok (.value (.pointer (some ⟨b, f + 2, none⟩))) w := by
  unfold execOp; rw [h]; simp [go_sem, hx]
theorem ex_f97_1 {x : Operand} {b f : Nat} (h : o.op = .fieldAddr 97 x 1) (hx : ρ x = .pointer (some ⟨b, f, none⟩)) (w : World) : (execOp ρ o).run Yba.prog w = .ok (.value (.pointer (some ⟨b, f + 1, none⟩))) w := by
  unfold execOp; rw [h]; simp [go_sem, hx]
theorem ex_f76_0 {x : Operand} {b f : Nat} (h : o.op = .fieldAddr 76 x 0) (hx : ρ x = .pointer (some ⟨b, f, none⟩)) (w : World) : (execOp ρ o).run Yba.prog w = .ok (.value (.pointer (some ⟨b, f + 0, none⟩))) w := by
  unfold execOp; rw [h]; simp [go_sem, hx]
theorem ex_l26 {x : Operand} {b f : Nat} {v : Value} (h : o.op = .load 26 x) (hx : ρ x = .pointer (some ⟨b, f, none⟩)) (hv : w.cell? ⟨b, f, none⟩ = some v) : (execOp ρ o).run Yba.prog w = .ok (.value v) w := by
  unfold execOp; rw [h]; simp [go_sem, hx, hv]
theorem ex_l74 {x : Operand} {b f : Nat} {v : Value} (h : o.op = .load 74 x) (hx : ρ x = .pointer (some ⟨b, f, none⟩)) (hv : w.cell? ⟨b, f, none⟩ = some v) : (execOp ρ o).run Yba.prog w = .ok (.value v) w := by
  unfold execOp; rw [h]; simp [go_sem, hx, hv]
theorem ex_l56 {x : Operand} {b f : Nat} {v : Value} (h : o.op = .load 56 x) (hx : ρ x = .pointer (some ⟨b, f, none⟩)) (hv : w.cell? ⟨b, f, none⟩ = some v) : (execOp ρ o).run Yba.prog w = .ok (.value v) w := by
  unfold execOp; rw [h]; simp [go_sem, hx, hv]
theorem ex_l95 {x : Operand} {b f : Nat} {v : Value} (h : o.op = .load 95 x) (hx : ρ x = .pointer (some ⟨b, f, none⟩)) (hv : w.cell? ⟨b, f, none⟩ = some v) : (execOp ρ o).run Yba.prog w = .ok (.value v) w := by
  unfold execOp; rw [h]; simp [go_sem, hx, hv]
theorem ex_l27 {x : Operand} {b f : Nat} {v : Value} (h : o.op = .load 27 x) (hx : ρ x = .pointer (some ⟨b, f, none⟩)) (hv : w.cell? ⟨b, f, none⟩ = some v) : (execOp ρ o).run Yba.prog w = .ok (.value v) w := by
  unfold execOp; rw [h]; simp [go_sem, hx, hv]
theorem ex_l3 {x : Operand} {b f : Nat} {v : Value} (h : o.op = .load 3 x) (hx : ρ x = .pointer (some ⟨b, f, none⟩)) (hv : w.cell? ⟨b, f, none⟩ = some v) : (execOp ρ o).run Yba.prog w = .ok (.value v) w := by
  unfold execOp; rw [h]; simp [go_sem, hx, hv]
theorem ex_l78 {x : Operand} {b f : Nat} {v u : Value} (h : o.op = .load 78 x) (hx : ρ x = .pointer (some ⟨b, f, none⟩)) (hv : w.cell? ⟨b, f, none⟩ = some v) (hu : w.cell? ⟨b, f + 1, none⟩ = some u) : (execOp ρ o).run Yba.prog w = .ok (.value (.agg #[v, u])) w := by
  unfold execOp; rw [h]; simp [go_sem, hx, hv, hu]
theorem ex_i26 {x y : Operand} {b n c k : Nat} (h : o.op = .indexAddr 26 x y) (hx : ρ x = .slice (some ⟨b, 0, none⟩) n c) (hy : ρ y = vi k) (hk : (k : Int) < n) (w : World) : (execOp ρ o).run Yba.prog w = .ok (.value (.pointer (some ⟨b, k, none⟩))) w := by
  unfold execOp; rw [h]; simp [go_sem, hx, hy, hk]
theorem ex_i74 {x y : Operand} {b n c k : Nat} (h : o.op = .indexAddr 74 x y) (hx : ρ x = .slice (some ⟨b, 0, none⟩) n c) (hy : ρ y = vi k) (hk : (k : Int) < n) (w : World) : (execOp ρ o).run Yba.prog w = .ok (.value (.pointer (some ⟨b, k * 2, none⟩))) w := by
  unfold execOp; rw [h]; simp [go_sem, hx, hy, hk]
theorem ex_i56 {x y : Operand} {b n c k : Nat} (h : o.op = .indexAddr 56 x y) (hx : ρ x = .slice (some ⟨b, 0, none⟩) n c) (hy : ρ y = vi k) (hk : (k : Int) < n) (w : World) : (execOp ρ o).run Yba.prog w = .ok (.value (.pointer (some ⟨b, k, none⟩))) w := by
  unfold execOp; rw [h]; simp [go_sem, hx, hy, hk]
theorem ex_i71 {x y : Operand} {b n c k : Nat} (h : o.op = .indexAddr 71 x y) (hx : ρ x = .slice (some ⟨b, 0, none⟩) n c) (hy : ρ y = vi k) (hk : (k : Int) < n) (w : World) : (execOp ρ o).run Yba.prog w = .ok (.value (.pointer (some ⟨b, k * 3, none⟩))) w := by
  unfold execOp; rw [h]; simp [go_sem, hx, hy, hk]
theorem ex_min {x y : Operand} {p q : Int} (h : o.op = .call { callee := .builtin .min, args := #[x, y], argTypes := #[3, 3] }) (hx : ρ x = vi p) (hy : ρ y = vi q) (w : World) : (execOp ρ o).run Yba.prog w = .ok (.value (vi (min p q))) w := by
  have e : (if q < p then q else p) = min p q := by omega
  unfold execOp; rw [h]; simp [go_sem, hx, hy, e]
theorem ex_build99 {x y z u : Operand} {b : Nat} {p q r : Int} {s : ByteArray} (h : o.op = .build 99 #[(0, x), (1, y), (2, z), (3, u)]) (hx : ρ x = pt b) (hy : ρ y = vi p) (hz : ρ z = vi q) (hu : ρ u = .agg #[.string s, vi r]) (w : World) : (execOp ρ o).run Yba.prog w = .ok (.value (.agg #[pt b, vi p, vi q, .string s, vi r])) w := by
  unfold execOp; rw [h]; simp [go_sem, hx, hy, hz, hu]
theorem ex_build78 (h : o.op = .build 78 #[]) (w : World) : (execOp ρ o).run Yba.prog w = .ok (.value (.agg #[.string .empty, vi 0])) w := by
  unfold execOp; rw [h]; simp [go_sem]; rfl
theorem ex_bs26 {x : Operand} {b : Nat} (h : o.op = .buildSlice 26 1 #[(0, x)]) (hx : ρ x = pt b) (w : World) : (execOp ρ o).run Yba.prog w = .ok (.value (.slice (some ⟨w.heap.size, 0, none⟩) 1 1)) (w.alloc (row [pt b] 27)) := by
  unfold execOp; rw [h]; simp [go_sem, hx]
theorem ex_bs56 {x : Operand} {b : Int} (h : o.op = .buildSlice 56 1 #[(0, x)]) (hx : ρ x = vi b) (w : World) : (execOp ρ o).run Yba.prog w = .ok (.value (.slice (some ⟨w.heap.size, 0, none⟩) 1 1)) (w.alloc (row [vi b] 3)) := by
  unfold execOp; rw [h]; simp [go_sem, hx]
theorem ex_bs74 {x : Operand} {s : ByteArray} {b : Int} (h : o.op = .buildSlice 74 1 #[(0, x)]) (hx : ρ x = .agg #[.string s, vi b]) (w : World) : (execOp ρ o).run Yba.prog w = .ok (.value (.slice (some ⟨w.heap.size, 0, none⟩) 1 1)) (w.alloc (row [.string s, vi b] 78)) := by
  unfold execOp; rw [h]; simp [go_sem, hx]
theorem ex_bs95 {x : Operand} {b : Nat} {p q r : Int} {s : ByteArray} (h : o.op = .buildSlice 95 1 #[(0, x)]) (hx : ρ x = .agg #[pt b, vi p, vi q, .string s, vi r]) (w : World) : (execOp ρ o).run Yba.prog w = .ok (.value (.slice (some ⟨w.heap.size, 0, none⟩) 1 1)) (w.alloc (row [pt b, vi p, vi q, .string s, vi r] 99)) := by
  unfold execOp; rw [h]; simp [go_sem, hx]
theorem ex_s26 {x y : Operand} {b f k c : Nat} {z : Option Addr} {u : Value} (h : o.op = .store 26 x y) (hx : ρ x = .pointer (some ⟨b, f, none⟩)) (hy : ρ y = .slice z k c) (hu : w.cell? ⟨b, f, none⟩ = some u) (hfz : w.frozen? ⟨b, f, none⟩ = false) : (execOp ρ o).run Yba.prog w = .ok .skip (w.setCell ⟨b, f, none⟩ (.slice z k c)) := by
  unfold execOp; rw [h]; simp [go_sem, hx, hy, hu, hfz]
theorem ex_s74 {x y : Operand} {b f k c : Nat} {z : Option Addr} {u : Value} (h : o.op = .store 74 x y) (hx : ρ x = .pointer (some ⟨b, f, none⟩)) (hy : ρ y = .slice z k c) (hu : w.cell? ⟨b, f, none⟩ = some u) (hfz : w.frozen? ⟨b, f, none⟩ = false) : (execOp ρ o).run Yba.prog w = .ok .skip (w.setCell ⟨b, f, none⟩ (.slice z k c)) := by
  unfold execOp; rw [h]; simp [go_sem, hx, hy, hu, hfz]
theorem ex_s56 {x y : Operand} {b f k c : Nat} {z : Option Addr} {u : Value} (h : o.op = .store 56 x y) (hx : ρ x = .pointer (some ⟨b, f, none⟩)) (hy : ρ y = .slice z k c) (hu : w.cell? ⟨b, f, none⟩ = some u) (hfz : w.frozen? ⟨b, f, none⟩ = false) : (execOp ρ o).run Yba.prog w = .ok .skip (w.setCell ⟨b, f, none⟩ (.slice z k c)) := by
  unfold execOp; rw [h]; simp [go_sem, hx, hy, hu, hfz]
theorem ex_s95 {x y : Operand} {b f k c : Nat} {z : Option Addr} {u : Value} (h : o.op = .store 95 x y) (hx : ρ x = .pointer (some ⟨b, f, none⟩)) (hy : ρ y = .slice z k c) (hu : w.cell? ⟨b, f, none⟩ = some u) (hfz : w.frozen? ⟨b, f, none⟩ = false) : (execOp ρ o).run Yba.prog w = .ok .skip (w.setCell ⟨b, f, none⟩ (.slice z k c)) := by
  unfold execOp; rw [h]; simp [go_sem, hx, hy, hu, hfz]
theorem ex_append {s x : Operand} {t : TypeId} {v u r : Value} {w' : World} (h : o.op = .call { callee := .builtin .append, args := #[s, x], argTypes := #[t, t] }) (hs : ρ s = v) (hx : ρ x = u) (hr : (Builtin.append_ #[t, t] o.type #[v, u]).run Yba.prog w = .ok r w') : (execOp ρ o).run Yba.prog w = .ok (.value r) w' := by
  unfold execOp
  simp only [h, resolve, invoke, builtin, Sem.run_bind, Sem.run_pure, Result.andThen_ok, List.map_toArray, List.map_cons, List.map_nil, hs, hx, hr]
end
end Go.Proofs.Ybulkeaca.CW
