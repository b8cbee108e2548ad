import Derived.Test.YbulkeacaK1
namespace Go.Proofs.Ybulkeaca.CW
open Go.RowKit Go.Proofs.Ybulkeaca.Kit
set_option linter.unusedSimpArgs false

/-! ### the operations of a region, out of the function's body -/
def regionOf : Code → Nat → Option (Array Oper)
  | .region i ops _, n => if i = n then some ops else none
  | .seq a b, n => match regionOf a n with | some x => some x | none => regionOf b n
  | .cond _ a b, n => match regionOf a n with | some x => some x | none => regionOf b n
  | .block _ b, n => regionOf b n
  | .loop b, n => regionOf b n
  | .scope b, n => regionOf b n
  | _, _ => none
noncomputable def opsAt (f : Func) (n : Nat) : Array Oper := ((f.body.bind fun c => regionOf c n).getD #[])
theorem op_at {ops : Array Oper} {i : Nat} {d : Option Tmp} {p : Op} (h : (ops[i]?).map (fun o => (o.dst, o.guard, o.op)) = some (d, none, p)) : ∃ o, ops[i]? = some o ∧ o.dst = d ∧ o.guard = none ∧ o.op = p := by
  obtain ⟨o, h1, h2⟩ := Option.map_eq_some_iff.1 h
  simp only [Prod.mk.injEq] at h2
  exact ⟨o, h1, h2.1, h2.2.1, h2.2.2⟩

/-- a frame that differs from a only in the slots lo .. hi -/
structure Like (a : Act) (lo hi : Nat) (a' : Act) : Prop where
  defers : a'.defers = a.defers
  size : a'.tmps.size = a.tmps.size
  slot : ∀ n, ¬(lo ≤ n ∧ n ≤ hi) → a'.tmps[n]? = a.tmps[n]?
theorem Like.refl (a : Act) (lo hi : Nat) : Like a lo hi a := ⟨rfl, rfl, fun _ _ => rfl⟩
theorem Like.put {a a' : Act} {lo hi d : Nat} (h : Like a lo hi a') (h1 : lo ≤ d) (h2 : d ≤ hi) (v : Value) : Like a lo hi (a'.put (some d) v) :=
  ⟨h.defers, by rw [put_size]; exact h.size, fun n hn => by
    have : d ≠ n := fun e => hn (by omega)
    simp only [Act.put]
    rw [Array.getElem?_setIfInBounds_ne this]
    exact h.slot n hn⟩
def puts (a : Act) (us : Nat → Value) : List Nat → Act
  | [] => a
  | d :: ds => puts (a.put (some d) (us d)) us ds
theorem puts_size (us : Nat → Value) : ∀ (ds : List Nat) (a : Act), (puts a us ds).tmps.size = a.tmps.size
  | [], _ => rfl
  | d :: ds, a => by rw [puts, puts_size us ds, put_size]
theorem puts_defers (us : Nat → Value) : ∀ (ds : List Nat) (a : Act), (puts a us ds).defers = a.defers
  | [], _ => rfl
  | d :: ds, a => by rw [puts, puts_defers us ds]; rfl
theorem puts_get (us : Nat → Value) : ∀ (ds : List Nat) (a : Act) (n : Nat), (puts a us ds).tmps[n]? = if n ∈ ds ∧ n < a.tmps.size then some (us n) else a.tmps[n]?
  | [], a, n => by simp [puts]
  | d :: ds, a, n => by
    rw [puts, puts_get us ds, put_size]
    by_cases hn : n < a.tmps.size
    · by_cases hm : n ∈ ds
      · simp [hm, hn]
      · by_cases e : n = d
        · subst e; simp [hm, hn, Act.put]
        · have e' : d ≠ n := fun x => e x.symm
          simp [hm, e, Act.put, Array.getElem?_setIfInBounds_ne e']
    · by_cases e : n = d
      · subst e; simp [hn, Act.put]
      · simp [hn, Act.put]
theorem Like.puts {a a' : Act} {lo hi : Nat} (h : Like a lo hi a') (ds : List Nat) (hds : ∀ n, lo ≤ n → n ≤ hi → n ∈ ds) : ∃ us, a' = puts a us ds := by
  refine ⟨fun n => a'.tmps.getD n undef, ?_⟩
  have hd := puts_defers (fun n => a'.tmps.getD n undef) ds a
  have ht : (CW.puts a (fun n => a'.tmps.getD n undef) ds).tmps = a'.tmps := by
    apply Array.ext_getElem?
    intro n
    rw [puts_get]
    by_cases hm : n ∈ ds ∧ n < a.tmps.size
    · rw [if_pos hm]
      have hl : n < a'.tmps.size := by rw [h.size]; exact hm.2
      simp [hl]
    · rw [if_neg hm]
      by_cases hl : n < a.tmps.size
      · exact (h.slot n (fun hx => hm ⟨hds n hx.1 hx.2, hl⟩)).symm
      · rw [Array.getElem?_eq_none (by omega), Array.getElem?_eq_none (by rw [h.size]; omega)]
  cases a'
  generalize CW.puts a _ ds = b at hd ht
  cases b
  simp only at hd ht
  subst ht
  simp only [Act.mk.injEq, true_and]
  exact (hd.trans h.defers.symm).symm
theorem wpAnyK_list {P : Program} {ops : Array Oper} {Q : Exit → Act → World → Prop} {md : Region.Mode} {T : World → Prop} {k : Nat} {fuel : Nat} {l l' : Array Bool} {a : Act} {w : World} (e : l = l') (h : wpAnyK P md ops Q k T fuel l' a w) : wpAnyK P md ops Q k T fuel l a w := e ▸ h


/-- what stands in the midst of region 21 -/
structure A21 (w0 : World) (D : Desc) (s f : Nat) (vl : Value) (xs : List Value) (vb : Value) (ys : List Value) (vr : Value) (zs : List Value) (b1 b2 b3 : Option Nat) (D' : Desc) (W : World) : Prop where
  h : Holds w0 W D'
  s1 : Sl D' (.rl s) 27 1 vl xs
  s2 : Sl D' (.rb s) 78 2 vb ys
  s3 : Sl D' (.rr s) 3 1 vr zs
  x1 : ∀ b, b1 = some b → D' (.x 2) = some (b, row [pt f] 27)
  x2 : ∀ b, b2 = some b → D' (.x 3) = some (b, row [.string .empty, vi 0] 78)
  x3 : ∀ b, b3 = some b → D' (.x 4) = some (b, row [vi 0] 3)
  ot : ∀ t, (∀ m, t = .x m → m = 9) → t ≠ .rl s → t ≠ .rb s → t ≠ .rr s → D' t = D t
section
variable {w0 : World} {D : Desc} {s f : Nat} {vl : Value} {xs : List Value} {vb : Value} {ys : List Value} {vr : Value} {zs : List Value} {b1 b2 b3 : Option Nat} {D' : Desc} {W : World}
theorem A21.bs1 (d : A21 w0 D s f vl xs vb ys vr zs b1 b2 b3 D' W) : A21 w0 D s f vl xs vb ys vr zs (some W.heap.size) b2 b3 (upd D' (.x 2) W.heap.size (row [pt f] 27)) (W.alloc (row [pt f] 27)) :=
  ⟨d.h.new (.x 2) _, d.s1.other (by simp) _ _, d.s2.other (by simp) _ _, d.s3.other (by simp) _ _, fun b e => by cases e; exact upd_same _ _ _ _, fun b e => by rw [upd_other (by simp)]; exact d.x2 b e, fun b e => by rw [upd_other (by simp)]; exact d.x3 b e, fun t ht h1 h2 h3 => by rw [upd_other (fun e => by have := ht 2 e; omega)]; exact d.ot t ht h1 h2 h3⟩
theorem A21.bs2 (d : A21 w0 D s f vl xs vb ys vr zs b1 b2 b3 D' W) : A21 w0 D s f vl xs vb ys vr zs b1 (some W.heap.size) b3 (upd D' (.x 3) W.heap.size (row [.string .empty, vi 0] 78)) (W.alloc (row [.string .empty, vi 0] 78)) :=
  ⟨d.h.new (.x 3) _, d.s1.other (by simp) _ _, d.s2.other (by simp) _ _, d.s3.other (by simp) _ _, fun b e => by rw [upd_other (by simp)]; exact d.x1 b e, fun b e => by cases e; exact upd_same _ _ _ _, fun b e => by rw [upd_other (by simp)]; exact d.x3 b e, fun t ht h1 h2 h3 => by rw [upd_other (fun e => by have := ht 3 e; omega)]; exact d.ot t ht h1 h2 h3⟩
theorem A21.bs3 (d : A21 w0 D s f vl xs vb ys vr zs b1 b2 b3 D' W) : A21 w0 D s f vl xs vb ys vr zs b1 b2 (some W.heap.size) (upd D' (.x 4) W.heap.size (row [vi 0] 3)) (W.alloc (row [vi 0] 3)) :=
  ⟨d.h.new (.x 4) _, d.s1.other (by simp) _ _, d.s2.other (by simp) _ _, d.s3.other (by simp) _ _, fun b e => by rw [upd_other (by simp)]; exact d.x1 b e, fun b e => by rw [upd_other (by simp)]; exact d.x2 b e, fun b e => by cases e; exact upd_same _ _ _ _, fun t ht h1 h2 h3 => by rw [upd_other (fun e => by have := ht 4 e; omega)]; exact d.ot t ht h1 h2 h3⟩
theorem A21.ap1 {b : Nat} (d : A21 w0 D s f vl xs vb ys vr zs (some b) b2 b3 D' W) (ty : TypeId) (hl : xs.length ≤ 10000000) :
    ∃ g k cap w' D'', (Builtin.append_ #[26, 26] ty #[vl, .slice (some ⟨b, 0, none⟩) 1 1]).run Yba.prog W = .ok (.slice (some ⟨g, 0, none⟩) k cap) w' ∧ A21 w0 D s f (.slice (some ⟨g, 0, none⟩) k cap) (xs ++ [pt f]) vb ys vr zs (some b) b2 b3 D'' w' := by
  obtain ⟨g, k, cap, w', o, hr, _, r2, r3⟩ := run_append_sl (ty := ty) (c := 1) elem26 d.h d.s1 (d.h.row (d.x1 b rfl)) rfl (by simp [Value.oneCell']) hl
  exact ⟨g, k, cap, w', _, hr, r2, r3, d.s2.other (by simp) _ _, d.s3.other (by simp) _ _, fun b e => by rw [upd_other (by simp)]; exact d.x1 b e, fun b e => by rw [upd_other (by simp)]; exact d.x2 b e, fun b e => by rw [upd_other (by simp)]; exact d.x3 b e, fun t ht h1 h2 h3 => by rw [upd_other h1]; exact d.ot t ht h1 h2 h3⟩
theorem A21.ap2 {b : Nat} (d : A21 w0 D s f vl xs vb ys vr zs b1 (some b) b3 D' W) (ty : TypeId) (hl : ys.length ≤ 10000000) :
    ∃ g k cap w' D'', (Builtin.append_ #[74, 74] ty #[vb, .slice (some ⟨b, 0, none⟩) 1 1]).run Yba.prog W = .ok (.slice (some ⟨g, 0, none⟩) k cap) w' ∧ A21 w0 D s f vl xs (.slice (some ⟨g, 0, none⟩) k cap) (ys ++ [.string .empty, vi 0]) vr zs b1 (some b) b3 D'' w' := by
  obtain ⟨g, k, cap, w', o, hr, _, r2, r3⟩ := run_append_sl (ty := ty) (c := 1) elem74 d.h d.s2 (d.h.row (d.x2 b rfl)) rfl (by simp [Value.oneCell']) hl
  exact ⟨g, k, cap, w', _, hr, r2, d.s1.other (by simp) _ _, r3, d.s3.other (by simp) _ _, fun b e => by rw [upd_other (by simp)]; exact d.x1 b e, fun b e => by rw [upd_other (by simp)]; exact d.x2 b e, fun b e => by rw [upd_other (by simp)]; exact d.x3 b e, fun t ht h1 h2 h3 => by rw [upd_other h2]; exact d.ot t ht h1 h2 h3⟩
theorem A21.ap3 {b : Nat} (d : A21 w0 D s f vl xs vb ys vr zs b1 b2 (some b) D' W) (ty : TypeId) (hl : zs.length ≤ 10000000) :
    ∃ g k cap w' D'', (Builtin.append_ #[56, 56] ty #[vr, .slice (some ⟨b, 0, none⟩) 1 1]).run Yba.prog W = .ok (.slice (some ⟨g, 0, none⟩) k cap) w' ∧ A21 w0 D s f vl xs vb ys (.slice (some ⟨g, 0, none⟩) k cap) (zs ++ [vi 0]) b1 b2 (some b) D'' w' := by
  obtain ⟨g, k, cap, w', o, hr, _, r2, r3⟩ := run_append_sl (ty := ty) (c := 1) elem56 d.h d.s3 (d.h.row (d.x3 b rfl)) rfl (by simp [Value.oneCell']) hl
  exact ⟨g, k, cap, w', _, hr, r2, d.s1.other (by simp) _ _, d.s2.other (by simp) _ _, r3, fun b e => by rw [upd_other (by simp)]; exact d.x1 b e, fun b e => by rw [upd_other (by simp)]; exact d.x2 b e, fun b e => by rw [upd_other (by simp)]; exact d.x3 b e, fun t ht h1 h2 h3 => by rw [upd_other h3]; exact d.ot t ht h1 h2 h3⟩
theorem A21.keeps (d : A21 w0 D s f vl xs vb ys vr zs b1 b2 b3 D' W) : D' (.st s) = D (.st s) ∧ D' .ls = D .ls := ⟨d.ot _ (by simp) (by simp) (by simp) (by simp), d.ot _ (by simp) (by simp) (by simp) (by simp)⟩
end
theorem wpAnyK_frame {P : Program} {ops : Array Oper} {Q : Exit → Act → World → Prop} {md : Region.Mode} {T : World → Prop} {k : Nat} {fuel : Nat} {l : Array Bool} {a : Act} {w : World} (h : ∀ a1, a1 = a → wpAnyK P md ops Q k T fuel l a1 w) : wpAnyK P md ops Q k T fuel l a w := h a rfl
noncomputable def R21 : Array Oper := opsAt Yba.f4 21
theorem sel21 : Region.noSelect R21 = true := by kernel_rfl

set_option maxRecDepth 100000 in
set_option maxHeartbeats 4000000 in
theorem region21 {Q : Exit → Act → World → Prop} {a : Act} {w0 w : World} {D : Desc} {s i n lb B f : Nat} {vl vb vr : Value} {xs ys zs lsC : List Value} (hsz : a.tmps.size = 212) (e9 : a.eval (.tmp 9) = pt B) (e1 : a.eval (.tmp 1) = .slice (some ⟨lb, 0, none⟩) n n) (e6 : a.eval (.tmp 6) = vi i) (hin : (i : Int) < n)
    (h : Holds w0 w D) (hst : D (.st s) = some (B, row [vl, vb, vr] 103)) (hls : D .ls = some (lb, row lsC 27)) (hci : lsC[i]? = some (pt f)) (h1 : Sl D (.rl s) 27 1 vl xs) (h2 : Sl D (.rb s) 78 2 vb ys) (h3 : Sl D (.rr s) 3 1 vr zs) (l1 : xs.length ≤ 10000000) (l2 : ys.length ≤ 10000000) (l3 : zs.length ≤ 10000000)
    (hQ : ∀ us w' D' vl' vb' vr', Holds w0 w' D' → D' (.st s) = some (B, row [vl', vb', vr'] 103) → Sl D' (.rl s) 27 1 vl' (xs ++ [pt f]) → Sl D' (.rb s) 78 2 vb' (ys ++ [.string .empty, vi 0]) → Sl D' (.rr s) 3 1 vr' (zs ++ [vi 0]) → (∀ t, (∀ m, t = .x m → m = 9) → t ≠ .st s → t ≠ .rl s → t ≠ .rb s → t ≠ .rr s → D' t = D t) → Q .normal (puts a us ((List.range 32).map (· + 151))) w') :
    (Code.region 21 R21 true).wp Yba.prog Q a w := by
  obtain ⟨o0, ho0, hd0, hg0, hp0⟩ := op_at (ops := R21) (i := 0) (d := some 151) (p := .move (.tmp 9)) (by kernel_rfl)
  obtain ⟨o1, ho1, hd1, hg1, hp1⟩ := op_at (ops := R21) (i := 1) (d := some 152) (p := .move (.tmp 9)) (by kernel_rfl)
  obtain ⟨o2, ho2, hd2, hg2, hp2⟩ := op_at (ops := R21) (i := 2) (d := some 153) (p := .move (.tmp 9)) (by kernel_rfl)
  obtain ⟨o3, ho3, hd3, hg3, hp3⟩ := op_at (ops := R21) (i := 3) (d := some 154) (p := .move (.tmp 9)) (by kernel_rfl)
  obtain ⟨o4, ho4, hd4, hg4, hp4⟩ := op_at (ops := R21) (i := 4) (d := some 155) (p := .nilCheck (.tmp 154)) (by kernel_rfl)
  obtain ⟨o5, ho5, hd5, hg5, hp5⟩ := op_at (ops := R21) (i := 5) (d := some 156) (p := .fieldAddr 103 (.tmp 155) 0) (by kernel_rfl)
  obtain ⟨o6, ho6, hd6, hg6, hp6⟩ := op_at (ops := R21) (i := 6) (d := some 157) (p := .load 26 (.tmp 156)) (by kernel_rfl)
  obtain ⟨o7, ho7, hd7, hg7, hp7⟩ := op_at (ops := R21) (i := 7) (d := some 158) (p := .move (.tmp 1)) (by kernel_rfl)
  obtain ⟨o8, ho8, hd8, hg8, hp8⟩ := op_at (ops := R21) (i := 8) (d := some 159) (p := .move (.tmp 6)) (by kernel_rfl)
  obtain ⟨o9, ho9, hd9, hg9, hp9⟩ := op_at (ops := R21) (i := 9) (d := some 160) (p := .indexAddr 26 (.tmp 158) (.tmp 159)) (by kernel_rfl)
  obtain ⟨o10, ho10, hd10, hg10, hp10⟩ := op_at (ops := R21) (i := 10) (d := some 161) (p := .load 27 (.tmp 160)) (by kernel_rfl)
  obtain ⟨o11, ho11, hd11, hg11, hp11⟩ := op_at (ops := R21) (i := 11) (d := some 162) (p := .buildSlice 26 1 #[(0, .tmp 161)]) (by kernel_rfl)
  obtain ⟨o12, ho12, hd12, hg12, hp12⟩ := op_at (ops := R21) (i := 12) (d := some 163) (p := .call { callee := .builtin .append, args := #[.tmp 157, .tmp 162], argTypes := #[26, 26] }) (by kernel_rfl)
  obtain ⟨o13, ho13, hd13, hg13, hp13⟩ := op_at (ops := R21) (i := 13) (d := some 164) (p := .move (.tmp 9)) (by kernel_rfl)
  obtain ⟨o14, ho14, hd14, hg14, hp14⟩ := op_at (ops := R21) (i := 14) (d := some 165) (p := .nilCheck (.tmp 164)) (by kernel_rfl)
  obtain ⟨o15, ho15, hd15, hg15, hp15⟩ := op_at (ops := R21) (i := 15) (d := some 166) (p := .fieldAddr 103 (.tmp 165) 1) (by kernel_rfl)
  obtain ⟨o16, ho16, hd16, hg16, hp16⟩ := op_at (ops := R21) (i := 16) (d := some 167) (p := .load 74 (.tmp 166)) (by kernel_rfl)
  obtain ⟨o17, ho17, hd17, hg17, hp17⟩ := op_at (ops := R21) (i := 17) (d := some 168) (p := .build 78 #[]) (by kernel_rfl)
  obtain ⟨o18, ho18, hd18, hg18, hp18⟩ := op_at (ops := R21) (i := 18) (d := some 169) (p := .buildSlice 74 1 #[(0, .tmp 168)]) (by kernel_rfl)
  obtain ⟨o19, ho19, hd19, hg19, hp19⟩ := op_at (ops := R21) (i := 19) (d := some 170) (p := .call { callee := .builtin .append, args := #[.tmp 167, .tmp 169], argTypes := #[74, 74] }) (by kernel_rfl)
  obtain ⟨o20, ho20, hd20, hg20, hp20⟩ := op_at (ops := R21) (i := 20) (d := some 171) (p := .move (.tmp 9)) (by kernel_rfl)
  obtain ⟨o21, ho21, hd21, hg21, hp21⟩ := op_at (ops := R21) (i := 21) (d := some 172) (p := .nilCheck (.tmp 171)) (by kernel_rfl)
  obtain ⟨o22, ho22, hd22, hg22, hp22⟩ := op_at (ops := R21) (i := 22) (d := some 173) (p := .fieldAddr 103 (.tmp 172) 2) (by kernel_rfl)
  obtain ⟨o23, ho23, hd23, hg23, hp23⟩ := op_at (ops := R21) (i := 23) (d := some 174) (p := .load 56 (.tmp 173)) (by kernel_rfl)
  obtain ⟨o24, ho24, hd24, hg24, hp24⟩ := op_at (ops := R21) (i := 24) (d := some 175) (p := .buildSlice 56 1 #[(0, .const (.int .i64 0))]) (by kernel_rfl)
  obtain ⟨o25, ho25, hd25, hg25, hp25⟩ := op_at (ops := R21) (i := 25) (d := some 176) (p := .call { callee := .builtin .append, args := #[.tmp 174, .tmp 175], argTypes := #[56, 56] }) (by kernel_rfl)
  obtain ⟨o26, ho26, hd26, hg26, hp26⟩ := op_at (ops := R21) (i := 26) (d := some 177) (p := .nilCheck (.tmp 151)) (by kernel_rfl)
  obtain ⟨o27, ho27, hd27, hg27, hp27⟩ := op_at (ops := R21) (i := 27) (d := some 178) (p := .fieldAddr 103 (.tmp 177) 0) (by kernel_rfl)
  obtain ⟨o28, ho28, hd28, hg28, hp28⟩ := op_at (ops := R21) (i := 28) (d := none) (p := .store 26 (.tmp 178) (.tmp 163)) (by kernel_rfl)
  obtain ⟨o29, ho29, hd29, hg29, hp29⟩ := op_at (ops := R21) (i := 29) (d := some 179) (p := .nilCheck (.tmp 152)) (by kernel_rfl)
  obtain ⟨o30, ho30, hd30, hg30, hp30⟩ := op_at (ops := R21) (i := 30) (d := some 180) (p := .fieldAddr 103 (.tmp 179) 1) (by kernel_rfl)
  obtain ⟨o31, ho31, hd31, hg31, hp31⟩ := op_at (ops := R21) (i := 31) (d := none) (p := .store 74 (.tmp 180) (.tmp 170)) (by kernel_rfl)
  obtain ⟨o32, ho32, hd32, hg32, hp32⟩ := op_at (ops := R21) (i := 32) (d := some 181) (p := .nilCheck (.tmp 153)) (by kernel_rfl)
  obtain ⟨o33, ho33, hd33, hg33, hp33⟩ := op_at (ops := R21) (i := 33) (d := some 182) (p := .fieldAddr 103 (.tmp 181) 2) (by kernel_rfl)
  obtain ⟨o34, ho34, hd34, hg34, hp34⟩ := op_at (ops := R21) (i := 34) (d := none) (p := .store 56 (.tmp 182) (.tmp 176)) (by kernel_rfl)
  refine wp_region_noPanic ?_
  refine wp_region_K 28 (fun W => W.cell? ⟨B, 0, none⟩ = some vl ∧ W.cell? ⟨B, 1, none⟩ = some vb ∧ W.cell? ⟨B, 2, none⟩ = some vr ∧ W.cell? ⟨lb, i, none⟩ = some (pt f)) (by kernel_rfl) ?_
  have hT : ∀ W DD, Holds w0 W DD → DD (.st s) = D (.st s) → DD .ls = D .ls → (W.cell? ⟨B, 0, none⟩ = some vl ∧ W.cell? ⟨B, 1, none⟩ = some vb ∧ W.cell? ⟨B, 2, none⟩ = some vr ∧ W.cell? ⟨lb, i, none⟩ = some (pt f)) := fun W DD hW a1 a2 => ⟨hW.cell (a1.trans hst) (i := 0) rfl, hW.cell (a1.trans hst) (i := 1) rfl, hW.cell (a1.trans hst) (i := 2) rfl, hW.cell (a2.trans hls) hci⟩
  have hh := h.drew
  have hT0 := hT _ _ hh rfl rfl
  generalize w.drew = W at *
  have tail : ∀ (a3 : Act) (W3 : World) (D3 : Desc) (g1 k1 c1 g2 k2 c2 g3 k3 c3 : Nat) (b1 b2 b3 : Option Nat), Like a 151 182 a3 → a3.eval (.tmp 151) = pt B → a3.eval (.tmp 152) = pt B → a3.eval (.tmp 153) = pt B → a3.eval (.tmp 163) = .slice (some ⟨g1, 0, none⟩) k1 c1 → a3.eval (.tmp 170) = .slice (some ⟨g2, 0, none⟩) k2 c2 → a3.eval (.tmp 176) = .slice (some ⟨g3, 0, none⟩) k3 c3 → A21 w0 D s f (.slice (some ⟨g1, 0, none⟩) k1 c1) (xs ++ [pt f]) (.slice (some ⟨g2, 0, none⟩) k2 c2) (ys ++ [.string .empty, vi 0]) (.slice (some ⟨g3, 0, none⟩) k3 c3) (zs ++ [vi 0]) b1 b2 b3 D3 W3 →
      wpAnyK Yba.prog .any R21 (NoPanic Q) 28 (fun W => W.cell? ⟨B, 0, none⟩ = some vl ∧ W.cell? ⟨B, 1, none⟩ = some vb ∧ W.cell? ⟨B, 2, none⟩ = some vr ∧ W.cell? ⟨lb, i, none⟩ = some (pt f)) 9 #[true, true, true, true, true, true, true, true, true, true, true, true, true, true, true, true, true, true, true, true, true, true, true, true, true, true, false, false, false, false, false, false, false, false, false] a3 W3 := by
    intro a3 W3 D3 g1 k1 c1 g2 k2 c2 g3 k3 c3 b1 b2 b3 hL e151 e152 e153 e163 e170 e176 d
    have hs3 : a3.tmps.size = 212 := hL.size.trans hsz
    have hst3 := d.keeps.1.trans hst
    have hT3 := hT _ _ d.h d.keeps.1 d.keeps.2
    refine wpAnyK_any (v := pt B) ho26 hd26 hg26 sel21 (by kernel_rfl) (by kernel_rfl) rfl (fun _ _ _ h => h) (fun _ => hT3) (ex_nil hp26 (by simp only [ev_same, ev_other, put_size, hs3, e151, e152, e153, e163, e170, e176, ne_eq, Nat.reduceEqDiff, not_false_eq_true, Nat.reduceLT])) ?_
    refine wpAnyK_any (v := .pointer (some ⟨B, 0, none⟩)) ho27 hd27 hg27 sel21 (by kernel_rfl) (by kernel_rfl) rfl (fun _ _ _ h => h) (fun _ => hT3) (ex_f103_0 (b := B) (f := 0) hp27 (by simp only [ev_same, ev_other, put_size, hs3, e151, e152, e153, e163, e170, e176, ne_eq, Nat.reduceEqDiff, not_false_eq_true, Nat.reduceLT])) ?_
    have q1 := d.h.set hst3 0 (.slice (some ⟨g1, 0, none⟩) k1 c1)
    refine wpAnyK_1 (by kernel_rfl) (OneK.skip ho28 hd28 hg28 (ex_s26 (b := B) (f := 0) (z := some ⟨g1, 0, none⟩) (k := k1) (c := c1) hp28 (by simp only [ev_same, ev_other, put_size, hs3, e151, e152, e153, e163, e170, e176, ne_eq, Nat.reduceEqDiff, not_false_eq_true, Nat.reduceLT]) (by simp only [ev_same, ev_other, put_size, hs3, e151, e152, e153, e163, e170, e176, ne_eq, Nat.reduceEqDiff, not_false_eq_true, Nat.reduceLT]) (d.h.cell hst3 (i := 0) rfl) (d.h.free hst3 0)) (fun e => absurd e (by decide)) ?_)
    refine wpAnyK_any (v := pt B) ho29 hd29 hg29 sel21 (by kernel_rfl) (by kernel_rfl) rfl (fun _ _ _ h => h) (fun e => absurd e (by decide)) (ex_nil hp29 (by simp only [ev_same, ev_other, put_size, hs3, e151, e152, e153, e163, e170, e176, ne_eq, Nat.reduceEqDiff, not_false_eq_true, Nat.reduceLT])) ?_
    refine wpAnyK_any (v := .pointer (some ⟨B, 1, none⟩)) ho30 hd30 hg30 sel21 (by kernel_rfl) (by kernel_rfl) rfl (fun _ _ _ h => h) (fun e => absurd e (by decide)) (ex_f103_1 (b := B) (f := 0) hp30 (by simp only [ev_same, ev_other, put_size, hs3, e151, e152, e153, e163, e170, e176, ne_eq, Nat.reduceEqDiff, not_false_eq_true, Nat.reduceLT])) ?_
    have q2 := q1.set (upd_same _ _ _ _) 1 (.slice (some ⟨g2, 0, none⟩) k2 c2)
    refine wpAnyK_1 (by kernel_rfl) (OneK.skip ho31 hd31 hg31 (ex_s74 (b := B) (f := 1) (z := some ⟨g2, 0, none⟩) (k := k2) (c := c2) hp31 (by simp only [ev_same, ev_other, put_size, hs3, e151, e152, e153, e163, e170, e176, ne_eq, Nat.reduceEqDiff, not_false_eq_true, Nat.reduceLT]) (by simp only [ev_same, ev_other, put_size, hs3, e151, e152, e153, e163, e170, e176, ne_eq, Nat.reduceEqDiff, not_false_eq_true, Nat.reduceLT]) (q1.cell (upd_same _ _ _ _) (i := 1) rfl) (q1.free (upd_same _ _ _ _) 1)) (fun e => absurd e (by decide)) ?_)
    refine wpAnyK_any (v := pt B) ho32 hd32 hg32 sel21 (by kernel_rfl) (by kernel_rfl) rfl (fun _ _ _ h => h) (fun e => absurd e (by decide)) (ex_nil hp32 (by simp only [ev_same, ev_other, put_size, hs3, e151, e152, e153, e163, e170, e176, ne_eq, Nat.reduceEqDiff, not_false_eq_true, Nat.reduceLT])) ?_
    refine wpAnyK_any (v := .pointer (some ⟨B, 2, none⟩)) ho33 hd33 hg33 sel21 (by kernel_rfl) (by kernel_rfl) rfl (fun _ _ _ h => h) (fun e => absurd e (by decide)) (ex_f103_2 (b := B) (f := 0) hp33 (by simp only [ev_same, ev_other, put_size, hs3, e151, e152, e153, e163, e170, e176, ne_eq, Nat.reduceEqDiff, not_false_eq_true, Nat.reduceLT])) ?_
    have q3 := q2.set (upd_same _ _ _ _) 2 (.slice (some ⟨g3, 0, none⟩) k3 c3)
    refine wpAnyK_1 (by kernel_rfl) (OneK.skip ho34 hd34 hg34 (ex_s56 (b := B) (f := 2) (z := some ⟨g3, 0, none⟩) (k := k3) (c := c3) hp34 (by simp only [ev_same, ev_other, put_size, hs3, e151, e152, e153, e163, e170, e176, ne_eq, Nat.reduceEqDiff, not_false_eq_true, Nat.reduceLT]) (by simp only [ev_same, ev_other, put_size, hs3, e151, e152, e153, e163, e170, e176, ne_eq, Nat.reduceEqDiff, not_false_eq_true, Nat.reduceLT]) (q2.cell (upd_same _ _ _ _) (i := 2) rfl) (q2.free (upd_same _ _ _ _) 2)) (fun e => absurd e (by decide)) ?_)
    refine wpAnyK_done (by kernel_rfl) ?_ _
    refine NoPanic.normal ?_
    obtain ⟨us, hus⟩ := Like.puts ((((((hL.put (d := 177) (by decide) (by decide) (pt B)).put (d := 178) (by decide) (by decide) (.pointer (some ⟨B, 0, none⟩))).put (d := 179) (by decide) (by decide) (pt B)).put (d := 180) (by decide) (by decide) (.pointer (some ⟨B, 1, none⟩))).put (d := 181) (by decide) (by decide) (pt B)).put (d := 182) (by decide) (by decide) (.pointer (some ⟨B, 2, none⟩))) ((List.range 32).map (· + 151)) (fun n h1 h2 => by simp only [List.mem_map, List.mem_range]; exact ⟨n - 151, by omega, by omega⟩)
    have hfin := hQ us _ _ _ _ _ q3 (upd_same _ _ _ _) (((d.s1.other (by simp) _ _).other (by simp) _ _).other (by simp) _ _) (((d.s2.other (by simp) _ _).other (by simp) _ _).other (by simp) _ _) (((d.s3.other (by simp) _ _).other (by simp) _ _).other (by simp) _ _) (fun t ht h1 h2 h3 h4 => by rw [upd_other h1, upd_other h1, upd_other h1]; exact d.ot t ht h2 h3 h4)
    rw [← hus] at hfin
    exact hfin
  rw [show R21.size = 35 by kernel_rfl]
  refine wpAnyK_any (v := pt B) ho0 hd0 hg0 sel21 (by kernel_rfl) (by kernel_rfl) rfl (fun _ _ _ h => h) (fun _ => hT0) (ex_move hp0 (by simp only [ev_same, ev_other, put_size, hsz, e9, e1, e6, ne_eq, Nat.reduceEqDiff, not_false_eq_true, Nat.reduceLT])) ?_
  refine wpAnyK_any (v := pt B) ho1 hd1 hg1 sel21 (by kernel_rfl) (by kernel_rfl) rfl (fun _ _ _ h => h) (fun _ => hT0) (ex_move hp1 (by simp only [ev_same, ev_other, put_size, hsz, e9, e1, e6, ne_eq, Nat.reduceEqDiff, not_false_eq_true, Nat.reduceLT])) ?_
  refine wpAnyK_any (v := pt B) ho2 hd2 hg2 sel21 (by kernel_rfl) (by kernel_rfl) rfl (fun _ _ _ h => h) (fun _ => hT0) (ex_move hp2 (by simp only [ev_same, ev_other, put_size, hsz, e9, e1, e6, ne_eq, Nat.reduceEqDiff, not_false_eq_true, Nat.reduceLT])) ?_
  refine wpAnyK_any (v := pt B) ho3 hd3 hg3 sel21 (by kernel_rfl) (by kernel_rfl) rfl (fun _ _ _ h => h) (fun _ => hT0) (ex_move hp3 (by simp only [ev_same, ev_other, put_size, hsz, e9, e1, e6, ne_eq, Nat.reduceEqDiff, not_false_eq_true, Nat.reduceLT])) ?_
  refine wpAnyK_any (v := pt B) ho4 hd4 hg4 sel21 (by kernel_rfl) (by kernel_rfl) rfl (fun _ _ _ h => h) (fun _ => hT0) (ex_nil hp4 (by simp only [ev_same, ev_other, put_size, hsz, e9, e1, e6, ne_eq, Nat.reduceEqDiff, not_false_eq_true, Nat.reduceLT])) ?_
  refine wpAnyK_any (v := .pointer (some ⟨B, 0, none⟩)) ho5 hd5 hg5 sel21 (by kernel_rfl) (by kernel_rfl) rfl (fun _ _ _ h => h) (fun _ => hT0) (ex_f103_0 (b := B) (f := 0) hp5 (by simp only [ev_same, ev_other, put_size, hsz, e9, e1, e6, ne_eq, Nat.reduceEqDiff, not_false_eq_true, Nat.reduceLT])) ?_
  refine wpAnyK_held (v := vl) ho6 hd6 hg6 sel21 (by kernel_rfl) (by kernel_rfl) rfl (by kernel_rfl) (by kernel_rfl) (fun _ _ _ h => h) hT0 (fun W' hx => ex_l26 hp6 (by simp only [ev_same, ev_other, put_size, hsz, e9, e1, e6, ne_eq, Nat.reduceEqDiff, not_false_eq_true, Nat.reduceLT]) hx.1) ?_
  refine wpAnyK_any (v := .slice (some ⟨lb, 0, none⟩) n n) ho7 hd7 hg7 sel21 (by kernel_rfl) (by kernel_rfl) rfl (fun _ _ _ h => h) (fun _ => hT0) (ex_move hp7 (by simp only [ev_same, ev_other, put_size, hsz, e9, e1, e6, ne_eq, Nat.reduceEqDiff, not_false_eq_true, Nat.reduceLT])) ?_
  refine wpAnyK_any (v := vi i) ho8 hd8 hg8 sel21 (by kernel_rfl) (by kernel_rfl) rfl (fun _ _ _ h => h) (fun _ => hT0) (ex_move hp8 (by simp only [ev_same, ev_other, put_size, hsz, e9, e1, e6, ne_eq, Nat.reduceEqDiff, not_false_eq_true, Nat.reduceLT])) ?_
  refine wpAnyK_any (v := .pointer (some ⟨lb, i, none⟩)) ho9 hd9 hg9 sel21 (by kernel_rfl) (by kernel_rfl) rfl (fun _ _ _ h => h) (fun _ => hT0) (ex_i26 (b := lb) (n := n) (c := n) (k := i) hp9 (by simp only [ev_same, ev_other, put_size, hsz, e9, e1, e6, ne_eq, Nat.reduceEqDiff, not_false_eq_true, Nat.reduceLT]) (by simp only [ev_same, ev_other, put_size, hsz, e9, e1, e6, ne_eq, Nat.reduceEqDiff, not_false_eq_true, Nat.reduceLT]) hin) ?_
  refine wpAnyK_held (v := pt f) ho10 hd10 hg10 sel21 (by kernel_rfl) (by kernel_rfl) rfl (by kernel_rfl) (by kernel_rfl) (fun _ _ _ h => h) hT0 (fun W' hx => ex_l27 hp10 (by simp only [ev_same, ev_other, put_size, hsz, e9, e1, e6, ne_eq, Nat.reduceEqDiff, not_false_eq_true, Nat.reduceLT]) hx.2.2.2) ?_
  refine wpAnyK_any (v := pt B) ho13 hd13 hg13 sel21 (by kernel_rfl) (by kernel_rfl) rfl (fun _ _ _ h => h) (fun _ => hT0) (ex_move hp13 (by simp only [ev_same, ev_other, put_size, hsz, e9, e1, e6, ne_eq, Nat.reduceEqDiff, not_false_eq_true, Nat.reduceLT])) ?_
  refine wpAnyK_any (v := pt B) ho14 hd14 hg14 sel21 (by kernel_rfl) (by kernel_rfl) rfl (fun _ _ _ h => h) (fun _ => hT0) (ex_nil hp14 (by simp only [ev_same, ev_other, put_size, hsz, e9, e1, e6, ne_eq, Nat.reduceEqDiff, not_false_eq_true, Nat.reduceLT])) ?_
  refine wpAnyK_any (v := .pointer (some ⟨B, 1, none⟩)) ho15 hd15 hg15 sel21 (by kernel_rfl) (by kernel_rfl) rfl (fun _ _ _ h => h) (fun _ => hT0) (ex_f103_1 (b := B) (f := 0) hp15 (by simp only [ev_same, ev_other, put_size, hsz, e9, e1, e6, ne_eq, Nat.reduceEqDiff, not_false_eq_true, Nat.reduceLT])) ?_
  refine wpAnyK_held (v := vb) ho16 hd16 hg16 sel21 (by kernel_rfl) (by kernel_rfl) rfl (by kernel_rfl) (by kernel_rfl) (fun _ _ _ h => h) hT0 (fun W' hx => ex_l74 hp16 (by simp only [ev_same, ev_other, put_size, hsz, e9, e1, e6, ne_eq, Nat.reduceEqDiff, not_false_eq_true, Nat.reduceLT]) hx.2.1) ?_
  refine wpAnyK_any (v := .agg #[.string .empty, vi 0]) ho17 hd17 hg17 sel21 (by kernel_rfl) (by kernel_rfl) rfl (fun _ _ _ h => h) (fun _ => hT0) (ex_build78 hp17) ?_
  refine wpAnyK_any (v := pt B) ho20 hd20 hg20 sel21 (by kernel_rfl) (by kernel_rfl) rfl (fun _ _ _ h => h) (fun _ => hT0) (ex_move hp20 (by simp only [ev_same, ev_other, put_size, hsz, e9, e1, e6, ne_eq, Nat.reduceEqDiff, not_false_eq_true, Nat.reduceLT])) ?_
  refine wpAnyK_any (v := pt B) ho21 hd21 hg21 sel21 (by kernel_rfl) (by kernel_rfl) rfl (fun _ _ _ h => h) (fun _ => hT0) (ex_nil hp21 (by simp only [ev_same, ev_other, put_size, hsz, e9, e1, e6, ne_eq, Nat.reduceEqDiff, not_false_eq_true, Nat.reduceLT])) ?_
  refine wpAnyK_any (v := .pointer (some ⟨B, 2, none⟩)) ho22 hd22 hg22 sel21 (by kernel_rfl) (by kernel_rfl) rfl (fun _ _ _ h => h) (fun _ => hT0) (ex_f103_2 (b := B) (f := 0) hp22 (by simp only [ev_same, ev_other, put_size, hsz, e9, e1, e6, ne_eq, Nat.reduceEqDiff, not_false_eq_true, Nat.reduceLT])) ?_
  refine wpAnyK_held (v := vr) ho23 hd23 hg23 sel21 (by kernel_rfl) (by kernel_rfl) rfl (by kernel_rfl) (by kernel_rfl) (fun _ _ _ h => h) hT0 (fun W' hx => ex_l56 hp23 (by simp only [ev_same, ev_other, put_size, hsz, e9, e1, e6, ne_eq, Nat.reduceEqDiff, not_false_eq_true, Nat.reduceLT]) hx.2.2.1) ?_
  refine wpAnyK_frame (fun a1 ha1 => ?_)
  have hL : Like a 151 182 a1 := by rw [ha1]; exact ((((((((((((((((((((Like.refl a 151 182).put (d := 151) (by decide) (by decide) (pt B)).put (d := 152) (by decide) (by decide) (pt B)).put (d := 153) (by decide) (by decide) (pt B)).put (d := 154) (by decide) (by decide) (pt B)).put (d := 155) (by decide) (by decide) (pt B)).put (d := 156) (by decide) (by decide) (.pointer (some ⟨B, 0, none⟩))).put (d := 157) (by decide) (by decide) (vl)).put (d := 158) (by decide) (by decide) (.slice (some ⟨lb, 0, none⟩) n n)).put (d := 159) (by decide) (by decide) (vi i)).put (d := 160) (by decide) (by decide) (.pointer (some ⟨lb, i, none⟩))).put (d := 161) (by decide) (by decide) (pt f)).put (d := 164) (by decide) (by decide) (pt B)).put (d := 165) (by decide) (by decide) (pt B)).put (d := 166) (by decide) (by decide) (.pointer (some ⟨B, 1, none⟩))).put (d := 167) (by decide) (by decide) (vb)).put (d := 168) (by decide) (by decide) (.agg #[.string .empty, vi 0])).put (d := 171) (by decide) (by decide) (pt B)).put (d := 172) (by decide) (by decide) (pt B)).put (d := 173) (by decide) (by decide) (.pointer (some ⟨B, 2, none⟩))).put (d := 174) (by decide) (by decide) (vr)
  have hs1 : a1.tmps.size = 212 := hL.size.trans hsz
  have f151 : a1.eval (.tmp 151) = pt B := by rw [ha1]; simp only [ev_same, ev_other, put_size, hsz, ne_eq, Nat.reduceEqDiff, not_false_eq_true, Nat.reduceLT]
  have f152 : a1.eval (.tmp 152) = pt B := by rw [ha1]; simp only [ev_same, ev_other, put_size, hsz, ne_eq, Nat.reduceEqDiff, not_false_eq_true, Nat.reduceLT]
  have f153 : a1.eval (.tmp 153) = pt B := by rw [ha1]; simp only [ev_same, ev_other, put_size, hsz, ne_eq, Nat.reduceEqDiff, not_false_eq_true, Nat.reduceLT]
  have f157 : a1.eval (.tmp 157) = vl := by rw [ha1]; simp only [ev_same, ev_other, put_size, hsz, ne_eq, Nat.reduceEqDiff, not_false_eq_true, Nat.reduceLT]
  have f161 : a1.eval (.tmp 161) = pt f := by rw [ha1]; simp only [ev_same, ev_other, put_size, hsz, ne_eq, Nat.reduceEqDiff, not_false_eq_true, Nat.reduceLT]
  have f167 : a1.eval (.tmp 167) = vb := by rw [ha1]; simp only [ev_same, ev_other, put_size, hsz, ne_eq, Nat.reduceEqDiff, not_false_eq_true, Nat.reduceLT]
  have f168 : a1.eval (.tmp 168) = .agg #[.string .empty, vi 0] := by rw [ha1]; simp only [ev_same, ev_other, put_size, hsz, ne_eq, Nat.reduceEqDiff, not_false_eq_true, Nat.reduceLT]
  have f174 : a1.eval (.tmp 174) = vr := by rw [ha1]; simp only [ev_same, ev_other, put_size, hsz, ne_eq, Nat.reduceEqDiff, not_false_eq_true, Nat.reduceLT]
  clear ha1
  have d0 : A21 w0 D s f vl xs vb ys vr zs none none none D W := ⟨hh, h1, h2, h3, fun b e => (by cases e), fun b e => (by cases e), fun b e => (by cases e), fun _ _ _ _ _ => rfl⟩
  refine wpAnyK_3 (i := 11) (j := 18) (l := 24) (by kernel_rfl) ?_ ?_ ?_
  · have d1 := d0.bs1
    refine OneK.run ho11 hd11 hg11 (ex_bs26 hp11 (by simp only [ev_same, ev_other, put_size, hs1, f151, f152, f153, f157, f161, f167, f168, f174, ne_eq, Nat.reduceEqDiff, not_false_eq_true, Nat.reduceLT]) _) (fun _ => hT _ _ d1.h d1.keeps.1 d1.keeps.2) ?_
    refine wpAnyK_3 (i := 12) (j := 18) (l := 24) (by kernel_rfl) ?_ ?_ ?_
    · obtain ⟨g1, k1, c1, W2, E2, r2, d2⟩ := d1.ap1 o12.type l1
      refine OneK.run ho12 hd12 hg12 (ex_append hp12 (by simp only [ev_same, ev_other, put_size, hs1, f151, f152, f153, f157, f161, f167, f168, f174, ne_eq, Nat.reduceEqDiff, not_false_eq_true, Nat.reduceLT]) (by simp only [ev_same, ev_other, put_size, hs1, f151, f152, f153, f157, f161, f167, f168, f174, ne_eq, Nat.reduceEqDiff, not_false_eq_true, Nat.reduceLT]) r2) (fun _ => hT _ _ d2.h d2.keeps.1 d2.keeps.2) ?_
      refine wpAnyK_2 (i := 18) (j := 24) (by kernel_rfl) ?_ ?_
      · have d3 := d2.bs2
        refine OneK.run ho18 hd18 hg18 (ex_bs74 hp18 (by simp only [ev_same, ev_other, put_size, hs1, f151, f152, f153, f157, f161, f167, f168, f174, ne_eq, Nat.reduceEqDiff, not_false_eq_true, Nat.reduceLT]) _) (fun _ => hT _ _ d3.h d3.keeps.1 d3.keeps.2) ?_
        refine wpAnyK_2 (i := 19) (j := 24) (by kernel_rfl) ?_ ?_
        · obtain ⟨g2, k2, c2, W4, E4, r4, d4⟩ := d3.ap2 o19.type l2
          refine OneK.run ho19 hd19 hg19 (ex_append hp19 (by simp only [ev_same, ev_other, put_size, hs1, f151, f152, f153, f157, f161, f167, f168, f174, ne_eq, Nat.reduceEqDiff, not_false_eq_true, Nat.reduceLT]) (by simp only [ev_same, ev_other, put_size, hs1, f151, f152, f153, f157, f161, f167, f168, f174, ne_eq, Nat.reduceEqDiff, not_false_eq_true, Nat.reduceLT]) r4) (fun _ => hT _ _ d4.h d4.keeps.1 d4.keeps.2) ?_
          refine wpAnyK_1 (i := 24) (by kernel_rfl) ?_
          · have d5 := d4.bs3
            refine OneK.run ho24 hd24 hg24 (ex_bs56 hp24 rfl _) (fun _ => hT _ _ d5.h d5.keeps.1 d5.keeps.2) ?_
            refine wpAnyK_1 (i := 25) (by kernel_rfl) ?_
            · obtain ⟨g3, k3, c3, W6, E6, r6, d6⟩ := d5.ap3 o25.type l3
              refine OneK.run ho25 hd25 hg25 (ex_append hp25 (by simp only [ev_same, ev_other, put_size, hs1, f151, f152, f153, f157, f161, f167, f168, f174, ne_eq, Nat.reduceEqDiff, not_false_eq_true, Nat.reduceLT]) (by simp only [ev_same, ev_other, put_size, hs1, f151, f152, f153, f157, f161, f167, f168, f174, ne_eq, Nat.reduceEqDiff, not_false_eq_true, Nat.reduceLT]) r6) (fun _ => hT _ _ d6.h d6.keeps.1 d6.keeps.2) ?_
              exact wpAnyK_list (by kernel_rfl) (tail _ _ _ _ _ _ _ _ _ _ _ _ _ _ _ ((((((hL.put (d := 162) (by decide) (by decide) _).put (d := 163) (by decide) (by decide) _).put (d := 169) (by decide) (by decide) _).put (d := 170) (by decide) (by decide) _).put (d := 175) (by decide) (by decide) _).put (d := 176) (by decide) (by decide) _) (by simp only [ev_same, ev_other, put_size, hs1, f151, f152, f153, f157, f161, f167, f168, f174, ne_eq, Nat.reduceEqDiff, not_false_eq_true, Nat.reduceLT]) (by simp only [ev_same, ev_other, put_size, hs1, f151, f152, f153, f157, f161, f167, f168, f174, ne_eq, Nat.reduceEqDiff, not_false_eq_true, Nat.reduceLT]) (by simp only [ev_same, ev_other, put_size, hs1, f151, f152, f153, f157, f161, f167, f168, f174, ne_eq, Nat.reduceEqDiff, not_false_eq_true, Nat.reduceLT]) (by simp only [ev_same, ev_other, put_size, hs1, f151, f152, f153, f157, f161, f167, f168, f174, ne_eq, Nat.reduceEqDiff, not_false_eq_true, Nat.reduceLT]) (by simp only [ev_same, ev_other, put_size, hs1, f151, f152, f153, f157, f161, f167, f168, f174, ne_eq, Nat.reduceEqDiff, not_false_eq_true, Nat.reduceLT]) (by simp only [ev_same, ev_other, put_size, hs1, f151, f152, f153, f157, f161, f167, f168, f174, ne_eq, Nat.reduceEqDiff, not_false_eq_true, Nat.reduceLT]) d6)
        · have d7 := d3.bs3
          refine OneK.run ho24 hd24 hg24 (ex_bs56 hp24 rfl _) (fun _ => hT _ _ d7.h d7.keeps.1 d7.keeps.2) ?_
          refine wpAnyK_1 (i := 19) (by kernel_rfl) ?_
          · obtain ⟨g2, k2, c2, W8, E8, r8, d8⟩ := d7.ap2 o19.type l2
            refine OneK.run ho19 hd19 hg19 (ex_append hp19 (by simp only [ev_same, ev_other, put_size, hs1, f151, f152, f153, f157, f161, f167, f168, f174, ne_eq, Nat.reduceEqDiff, not_false_eq_true, Nat.reduceLT]) (by simp only [ev_same, ev_other, put_size, hs1, f151, f152, f153, f157, f161, f167, f168, f174, ne_eq, Nat.reduceEqDiff, not_false_eq_true, Nat.reduceLT]) r8) (fun _ => hT _ _ d8.h d8.keeps.1 d8.keeps.2) ?_
            refine wpAnyK_1 (i := 25) (by kernel_rfl) ?_
            · obtain ⟨g3, k3, c3, W9, E9, r9, d9⟩ := d8.ap3 o25.type l3
              refine OneK.run ho25 hd25 hg25 (ex_append hp25 (by simp only [ev_same, ev_other, put_size, hs1, f151, f152, f153, f157, f161, f167, f168, f174, ne_eq, Nat.reduceEqDiff, not_false_eq_true, Nat.reduceLT]) (by simp only [ev_same, ev_other, put_size, hs1, f151, f152, f153, f157, f161, f167, f168, f174, ne_eq, Nat.reduceEqDiff, not_false_eq_true, Nat.reduceLT]) r9) (fun _ => hT _ _ d9.h d9.keeps.1 d9.keeps.2) ?_
              exact wpAnyK_list (by kernel_rfl) (tail _ _ _ _ _ _ _ _ _ _ _ _ _ _ _ ((((((hL.put (d := 162) (by decide) (by decide) _).put (d := 163) (by decide) (by decide) _).put (d := 169) (by decide) (by decide) _).put (d := 175) (by decide) (by decide) _).put (d := 170) (by decide) (by decide) _).put (d := 176) (by decide) (by decide) _) (by simp only [ev_same, ev_other, put_size, hs1, f151, f152, f153, f157, f161, f167, f168, f174, ne_eq, Nat.reduceEqDiff, not_false_eq_true, Nat.reduceLT]) (by simp only [ev_same, ev_other, put_size, hs1, f151, f152, f153, f157, f161, f167, f168, f174, ne_eq, Nat.reduceEqDiff, not_false_eq_true, Nat.reduceLT]) (by simp only [ev_same, ev_other, put_size, hs1, f151, f152, f153, f157, f161, f167, f168, f174, ne_eq, Nat.reduceEqDiff, not_false_eq_true, Nat.reduceLT]) (by simp only [ev_same, ev_other, put_size, hs1, f151, f152, f153, f157, f161, f167, f168, f174, ne_eq, Nat.reduceEqDiff, not_false_eq_true, Nat.reduceLT]) (by simp only [ev_same, ev_other, put_size, hs1, f151, f152, f153, f157, f161, f167, f168, f174, ne_eq, Nat.reduceEqDiff, not_false_eq_true, Nat.reduceLT]) (by simp only [ev_same, ev_other, put_size, hs1, f151, f152, f153, f157, f161, f167, f168, f174, ne_eq, Nat.reduceEqDiff, not_false_eq_true, Nat.reduceLT]) d9)
      · have d10 := d2.bs3
        refine OneK.run ho24 hd24 hg24 (ex_bs56 hp24 rfl _) (fun _ => hT _ _ d10.h d10.keeps.1 d10.keeps.2) ?_
        refine wpAnyK_1 (i := 18) (by kernel_rfl) ?_
        · have d11 := d10.bs2
          refine OneK.run ho18 hd18 hg18 (ex_bs74 hp18 (by simp only [ev_same, ev_other, put_size, hs1, f151, f152, f153, f157, f161, f167, f168, f174, ne_eq, Nat.reduceEqDiff, not_false_eq_true, Nat.reduceLT]) _) (fun _ => hT _ _ d11.h d11.keeps.1 d11.keeps.2) ?_
          refine wpAnyK_1 (i := 19) (by kernel_rfl) ?_
          · obtain ⟨g2, k2, c2, W12, E12, r12, d12⟩ := d11.ap2 o19.type l2
            refine OneK.run ho19 hd19 hg19 (ex_append hp19 (by simp only [ev_same, ev_other, put_size, hs1, f151, f152, f153, f157, f161, f167, f168, f174, ne_eq, Nat.reduceEqDiff, not_false_eq_true, Nat.reduceLT]) (by simp only [ev_same, ev_other, put_size, hs1, f151, f152, f153, f157, f161, f167, f168, f174, ne_eq, Nat.reduceEqDiff, not_false_eq_true, Nat.reduceLT]) r12) (fun _ => hT _ _ d12.h d12.keeps.1 d12.keeps.2) ?_
            refine wpAnyK_1 (i := 25) (by kernel_rfl) ?_
            · obtain ⟨g3, k3, c3, W13, E13, r13, d13⟩ := d12.ap3 o25.type l3
              refine OneK.run ho25 hd25 hg25 (ex_append hp25 (by simp only [ev_same, ev_other, put_size, hs1, f151, f152, f153, f157, f161, f167, f168, f174, ne_eq, Nat.reduceEqDiff, not_false_eq_true, Nat.reduceLT]) (by simp only [ev_same, ev_other, put_size, hs1, f151, f152, f153, f157, f161, f167, f168, f174, ne_eq, Nat.reduceEqDiff, not_false_eq_true, Nat.reduceLT]) r13) (fun _ => hT _ _ d13.h d13.keeps.1 d13.keeps.2) ?_
              exact wpAnyK_list (by kernel_rfl) (tail _ _ _ _ _ _ _ _ _ _ _ _ _ _ _ ((((((hL.put (d := 162) (by decide) (by decide) _).put (d := 163) (by decide) (by decide) _).put (d := 175) (by decide) (by decide) _).put (d := 169) (by decide) (by decide) _).put (d := 170) (by decide) (by decide) _).put (d := 176) (by decide) (by decide) _) (by simp only [ev_same, ev_other, put_size, hs1, f151, f152, f153, f157, f161, f167, f168, f174, ne_eq, Nat.reduceEqDiff, not_false_eq_true, Nat.reduceLT]) (by simp only [ev_same, ev_other, put_size, hs1, f151, f152, f153, f157, f161, f167, f168, f174, ne_eq, Nat.reduceEqDiff, not_false_eq_true, Nat.reduceLT]) (by simp only [ev_same, ev_other, put_size, hs1, f151, f152, f153, f157, f161, f167, f168, f174, ne_eq, Nat.reduceEqDiff, not_false_eq_true, Nat.reduceLT]) (by simp only [ev_same, ev_other, put_size, hs1, f151, f152, f153, f157, f161, f167, f168, f174, ne_eq, Nat.reduceEqDiff, not_false_eq_true, Nat.reduceLT]) (by simp only [ev_same, ev_other, put_size, hs1, f151, f152, f153, f157, f161, f167, f168, f174, ne_eq, Nat.reduceEqDiff, not_false_eq_true, Nat.reduceLT]) (by simp only [ev_same, ev_other, put_size, hs1, f151, f152, f153, f157, f161, f167, f168, f174, ne_eq, Nat.reduceEqDiff, not_false_eq_true, Nat.reduceLT]) d13)
    · have d14 := d1.bs2
      refine OneK.run ho18 hd18 hg18 (ex_bs74 hp18 (by simp only [ev_same, ev_other, put_size, hs1, f151, f152, f153, f157, f161, f167, f168, f174, ne_eq, Nat.reduceEqDiff, not_false_eq_true, Nat.reduceLT]) _) (fun _ => hT _ _ d14.h d14.keeps.1 d14.keeps.2) ?_
      refine wpAnyK_2 (i := 12) (j := 24) (by kernel_rfl) ?_ ?_
      · obtain ⟨g1, k1, c1, W15, E15, r15, d15⟩ := d14.ap1 o12.type l1
        refine OneK.run ho12 hd12 hg12 (ex_append hp12 (by simp only [ev_same, ev_other, put_size, hs1, f151, f152, f153, f157, f161, f167, f168, f174, ne_eq, Nat.reduceEqDiff, not_false_eq_true, Nat.reduceLT]) (by simp only [ev_same, ev_other, put_size, hs1, f151, f152, f153, f157, f161, f167, f168, f174, ne_eq, Nat.reduceEqDiff, not_false_eq_true, Nat.reduceLT]) r15) (fun _ => hT _ _ d15.h d15.keeps.1 d15.keeps.2) ?_
        refine wpAnyK_2 (i := 19) (j := 24) (by kernel_rfl) ?_ ?_
        · obtain ⟨g2, k2, c2, W16, E16, r16, d16⟩ := d15.ap2 o19.type l2
          refine OneK.run ho19 hd19 hg19 (ex_append hp19 (by simp only [ev_same, ev_other, put_size, hs1, f151, f152, f153, f157, f161, f167, f168, f174, ne_eq, Nat.reduceEqDiff, not_false_eq_true, Nat.reduceLT]) (by simp only [ev_same, ev_other, put_size, hs1, f151, f152, f153, f157, f161, f167, f168, f174, ne_eq, Nat.reduceEqDiff, not_false_eq_true, Nat.reduceLT]) r16) (fun _ => hT _ _ d16.h d16.keeps.1 d16.keeps.2) ?_
          refine wpAnyK_1 (i := 24) (by kernel_rfl) ?_
          · have d17 := d16.bs3
            refine OneK.run ho24 hd24 hg24 (ex_bs56 hp24 rfl _) (fun _ => hT _ _ d17.h d17.keeps.1 d17.keeps.2) ?_
            refine wpAnyK_1 (i := 25) (by kernel_rfl) ?_
            · obtain ⟨g3, k3, c3, W18, E18, r18, d18⟩ := d17.ap3 o25.type l3
              refine OneK.run ho25 hd25 hg25 (ex_append hp25 (by simp only [ev_same, ev_other, put_size, hs1, f151, f152, f153, f157, f161, f167, f168, f174, ne_eq, Nat.reduceEqDiff, not_false_eq_true, Nat.reduceLT]) (by simp only [ev_same, ev_other, put_size, hs1, f151, f152, f153, f157, f161, f167, f168, f174, ne_eq, Nat.reduceEqDiff, not_false_eq_true, Nat.reduceLT]) r18) (fun _ => hT _ _ d18.h d18.keeps.1 d18.keeps.2) ?_
              exact wpAnyK_list (by kernel_rfl) (tail _ _ _ _ _ _ _ _ _ _ _ _ _ _ _ ((((((hL.put (d := 162) (by decide) (by decide) _).put (d := 169) (by decide) (by decide) _).put (d := 163) (by decide) (by decide) _).put (d := 170) (by decide) (by decide) _).put (d := 175) (by decide) (by decide) _).put (d := 176) (by decide) (by decide) _) (by simp only [ev_same, ev_other, put_size, hs1, f151, f152, f153, f157, f161, f167, f168, f174, ne_eq, Nat.reduceEqDiff, not_false_eq_true, Nat.reduceLT]) (by simp only [ev_same, ev_other, put_size, hs1, f151, f152, f153, f157, f161, f167, f168, f174, ne_eq, Nat.reduceEqDiff, not_false_eq_true, Nat.reduceLT]) (by simp only [ev_same, ev_other, put_size, hs1, f151, f152, f153, f157, f161, f167, f168, f174, ne_eq, Nat.reduceEqDiff, not_false_eq_true, Nat.reduceLT]) (by simp only [ev_same, ev_other, put_size, hs1, f151, f152, f153, f157, f161, f167, f168, f174, ne_eq, Nat.reduceEqDiff, not_false_eq_true, Nat.reduceLT]) (by simp only [ev_same, ev_other, put_size, hs1, f151, f152, f153, f157, f161, f167, f168, f174, ne_eq, Nat.reduceEqDiff, not_false_eq_true, Nat.reduceLT]) (by simp only [ev_same, ev_other, put_size, hs1, f151, f152, f153, f157, f161, f167, f168, f174, ne_eq, Nat.reduceEqDiff, not_false_eq_true, Nat.reduceLT]) d18)
        · have d19 := d15.bs3
          refine OneK.run ho24 hd24 hg24 (ex_bs56 hp24 rfl _) (fun _ => hT _ _ d19.h d19.keeps.1 d19.keeps.2) ?_
          refine wpAnyK_1 (i := 19) (by kernel_rfl) ?_
          · obtain ⟨g2, k2, c2, W20, E20, r20, d20⟩ := d19.ap2 o19.type l2
            refine OneK.run ho19 hd19 hg19 (ex_append hp19 (by simp only [ev_same, ev_other, put_size, hs1, f151, f152, f153, f157, f161, f167, f168, f174, ne_eq, Nat.reduceEqDiff, not_false_eq_true, Nat.reduceLT]) (by simp only [ev_same, ev_other, put_size, hs1, f151, f152, f153, f157, f161, f167, f168, f174, ne_eq, Nat.reduceEqDiff, not_false_eq_true, Nat.reduceLT]) r20) (fun _ => hT _ _ d20.h d20.keeps.1 d20.keeps.2) ?_
            refine wpAnyK_1 (i := 25) (by kernel_rfl) ?_
            · obtain ⟨g3, k3, c3, W21, E21, r21, d21⟩ := d20.ap3 o25.type l3
              refine OneK.run ho25 hd25 hg25 (ex_append hp25 (by simp only [ev_same, ev_other, put_size, hs1, f151, f152, f153, f157, f161, f167, f168, f174, ne_eq, Nat.reduceEqDiff, not_false_eq_true, Nat.reduceLT]) (by simp only [ev_same, ev_other, put_size, hs1, f151, f152, f153, f157, f161, f167, f168, f174, ne_eq, Nat.reduceEqDiff, not_false_eq_true, Nat.reduceLT]) r21) (fun _ => hT _ _ d21.h d21.keeps.1 d21.keeps.2) ?_
              exact wpAnyK_list (by kernel_rfl) (tail _ _ _ _ _ _ _ _ _ _ _ _ _ _ _ ((((((hL.put (d := 162) (by decide) (by decide) _).put (d := 169) (by decide) (by decide) _).put (d := 163) (by decide) (by decide) _).put (d := 175) (by decide) (by decide) _).put (d := 170) (by decide) (by decide) _).put (d := 176) (by decide) (by decide) _) (by simp only [ev_same, ev_other, put_size, hs1, f151, f152, f153, f157, f161, f167, f168, f174, ne_eq, Nat.reduceEqDiff, not_false_eq_true, Nat.reduceLT]) (by simp only [ev_same, ev_other, put_size, hs1, f151, f152, f153, f157, f161, f167, f168, f174, ne_eq, Nat.reduceEqDiff, not_false_eq_true, Nat.reduceLT]) (by simp only [ev_same, ev_other, put_size, hs1, f151, f152, f153, f157, f161, f167, f168, f174, ne_eq, Nat.reduceEqDiff, not_false_eq_true, Nat.reduceLT]) (by simp only [ev_same, ev_other, put_size, hs1, f151, f152, f153, f157, f161, f167, f168, f174, ne_eq, Nat.reduceEqDiff, not_false_eq_true, Nat.reduceLT]) (by simp only [ev_same, ev_other, put_size, hs1, f151, f152, f153, f157, f161, f167, f168, f174, ne_eq, Nat.reduceEqDiff, not_false_eq_true, Nat.reduceLT]) (by simp only [ev_same, ev_other, put_size, hs1, f151, f152, f153, f157, f161, f167, f168, f174, ne_eq, Nat.reduceEqDiff, not_false_eq_true, Nat.reduceLT]) d21)
      · have d22 := d14.bs3
        refine OneK.run ho24 hd24 hg24 (ex_bs56 hp24 rfl _) (fun _ => hT _ _ d22.h d22.keeps.1 d22.keeps.2) ?_
        refine wpAnyK_1 (i := 12) (by kernel_rfl) ?_
        · obtain ⟨g1, k1, c1, W23, E23, r23, d23⟩ := d22.ap1 o12.type l1
          refine OneK.run ho12 hd12 hg12 (ex_append hp12 (by simp only [ev_same, ev_other, put_size, hs1, f151, f152, f153, f157, f161, f167, f168, f174, ne_eq, Nat.reduceEqDiff, not_false_eq_true, Nat.reduceLT]) (by simp only [ev_same, ev_other, put_size, hs1, f151, f152, f153, f157, f161, f167, f168, f174, ne_eq, Nat.reduceEqDiff, not_false_eq_true, Nat.reduceLT]) r23) (fun _ => hT _ _ d23.h d23.keeps.1 d23.keeps.2) ?_
          refine wpAnyK_1 (i := 19) (by kernel_rfl) ?_
          · obtain ⟨g2, k2, c2, W24, E24, r24, d24⟩ := d23.ap2 o19.type l2
            refine OneK.run ho19 hd19 hg19 (ex_append hp19 (by simp only [ev_same, ev_other, put_size, hs1, f151, f152, f153, f157, f161, f167, f168, f174, ne_eq, Nat.reduceEqDiff, not_false_eq_true, Nat.reduceLT]) (by simp only [ev_same, ev_other, put_size, hs1, f151, f152, f153, f157, f161, f167, f168, f174, ne_eq, Nat.reduceEqDiff, not_false_eq_true, Nat.reduceLT]) r24) (fun _ => hT _ _ d24.h d24.keeps.1 d24.keeps.2) ?_
            refine wpAnyK_1 (i := 25) (by kernel_rfl) ?_
            · obtain ⟨g3, k3, c3, W25, E25, r25, d25⟩ := d24.ap3 o25.type l3
              refine OneK.run ho25 hd25 hg25 (ex_append hp25 (by simp only [ev_same, ev_other, put_size, hs1, f151, f152, f153, f157, f161, f167, f168, f174, ne_eq, Nat.reduceEqDiff, not_false_eq_true, Nat.reduceLT]) (by simp only [ev_same, ev_other, put_size, hs1, f151, f152, f153, f157, f161, f167, f168, f174, ne_eq, Nat.reduceEqDiff, not_false_eq_true, Nat.reduceLT]) r25) (fun _ => hT _ _ d25.h d25.keeps.1 d25.keeps.2) ?_
              exact wpAnyK_list (by kernel_rfl) (tail _ _ _ _ _ _ _ _ _ _ _ _ _ _ _ ((((((hL.put (d := 162) (by decide) (by decide) _).put (d := 169) (by decide) (by decide) _).put (d := 175) (by decide) (by decide) _).put (d := 163) (by decide) (by decide) _).put (d := 170) (by decide) (by decide) _).put (d := 176) (by decide) (by decide) _) (by simp only [ev_same, ev_other, put_size, hs1, f151, f152, f153, f157, f161, f167, f168, f174, ne_eq, Nat.reduceEqDiff, not_false_eq_true, Nat.reduceLT]) (by simp only [ev_same, ev_other, put_size, hs1, f151, f152, f153, f157, f161, f167, f168, f174, ne_eq, Nat.reduceEqDiff, not_false_eq_true, Nat.reduceLT]) (by simp only [ev_same, ev_other, put_size, hs1, f151, f152, f153, f157, f161, f167, f168, f174, ne_eq, Nat.reduceEqDiff, not_false_eq_true, Nat.reduceLT]) (by simp only [ev_same, ev_other, put_size, hs1, f151, f152, f153, f157, f161, f167, f168, f174, ne_eq, Nat.reduceEqDiff, not_false_eq_true, Nat.reduceLT]) (by simp only [ev_same, ev_other, put_size, hs1, f151, f152, f153, f157, f161, f167, f168, f174, ne_eq, Nat.reduceEqDiff, not_false_eq_true, Nat.reduceLT]) (by simp only [ev_same, ev_other, put_size, hs1, f151, f152, f153, f157, f161, f167, f168, f174, ne_eq, Nat.reduceEqDiff, not_false_eq_true, Nat.reduceLT]) d25)
    · have d26 := d1.bs3
      refine OneK.run ho24 hd24 hg24 (ex_bs56 hp24 rfl _) (fun _ => hT _ _ d26.h d26.keeps.1 d26.keeps.2) ?_
      refine wpAnyK_2 (i := 12) (j := 18) (by kernel_rfl) ?_ ?_
      · obtain ⟨g1, k1, c1, W27, E27, r27, d27⟩ := d26.ap1 o12.type l1
        refine OneK.run ho12 hd12 hg12 (ex_append hp12 (by simp only [ev_same, ev_other, put_size, hs1, f151, f152, f153, f157, f161, f167, f168, f174, ne_eq, Nat.reduceEqDiff, not_false_eq_true, Nat.reduceLT]) (by simp only [ev_same, ev_other, put_size, hs1, f151, f152, f153, f157, f161, f167, f168, f174, ne_eq, Nat.reduceEqDiff, not_false_eq_true, Nat.reduceLT]) r27) (fun _ => hT _ _ d27.h d27.keeps.1 d27.keeps.2) ?_
        refine wpAnyK_1 (i := 18) (by kernel_rfl) ?_
        · have d28 := d27.bs2
          refine OneK.run ho18 hd18 hg18 (ex_bs74 hp18 (by simp only [ev_same, ev_other, put_size, hs1, f151, f152, f153, f157, f161, f167, f168, f174, ne_eq, Nat.reduceEqDiff, not_false_eq_true, Nat.reduceLT]) _) (fun _ => hT _ _ d28.h d28.keeps.1 d28.keeps.2) ?_
          refine wpAnyK_1 (i := 19) (by kernel_rfl) ?_
          · obtain ⟨g2, k2, c2, W29, E29, r29, d29⟩ := d28.ap2 o19.type l2
            refine OneK.run ho19 hd19 hg19 (ex_append hp19 (by simp only [ev_same, ev_other, put_size, hs1, f151, f152, f153, f157, f161, f167, f168, f174, ne_eq, Nat.reduceEqDiff, not_false_eq_true, Nat.reduceLT]) (by simp only [ev_same, ev_other, put_size, hs1, f151, f152, f153, f157, f161, f167, f168, f174, ne_eq, Nat.reduceEqDiff, not_false_eq_true, Nat.reduceLT]) r29) (fun _ => hT _ _ d29.h d29.keeps.1 d29.keeps.2) ?_
            refine wpAnyK_1 (i := 25) (by kernel_rfl) ?_
            · obtain ⟨g3, k3, c3, W30, E30, r30, d30⟩ := d29.ap3 o25.type l3
              refine OneK.run ho25 hd25 hg25 (ex_append hp25 (by simp only [ev_same, ev_other, put_size, hs1, f151, f152, f153, f157, f161, f167, f168, f174, ne_eq, Nat.reduceEqDiff, not_false_eq_true, Nat.reduceLT]) (by simp only [ev_same, ev_other, put_size, hs1, f151, f152, f153, f157, f161, f167, f168, f174, ne_eq, Nat.reduceEqDiff, not_false_eq_true, Nat.reduceLT]) r30) (fun _ => hT _ _ d30.h d30.keeps.1 d30.keeps.2) ?_
              exact wpAnyK_list (by kernel_rfl) (tail _ _ _ _ _ _ _ _ _ _ _ _ _ _ _ ((((((hL.put (d := 162) (by decide) (by decide) _).put (d := 175) (by decide) (by decide) _).put (d := 163) (by decide) (by decide) _).put (d := 169) (by decide) (by decide) _).put (d := 170) (by decide) (by decide) _).put (d := 176) (by decide) (by decide) _) (by simp only [ev_same, ev_other, put_size, hs1, f151, f152, f153, f157, f161, f167, f168, f174, ne_eq, Nat.reduceEqDiff, not_false_eq_true, Nat.reduceLT]) (by simp only [ev_same, ev_other, put_size, hs1, f151, f152, f153, f157, f161, f167, f168, f174, ne_eq, Nat.reduceEqDiff, not_false_eq_true, Nat.reduceLT]) (by simp only [ev_same, ev_other, put_size, hs1, f151, f152, f153, f157, f161, f167, f168, f174, ne_eq, Nat.reduceEqDiff, not_false_eq_true, Nat.reduceLT]) (by simp only [ev_same, ev_other, put_size, hs1, f151, f152, f153, f157, f161, f167, f168, f174, ne_eq, Nat.reduceEqDiff, not_false_eq_true, Nat.reduceLT]) (by simp only [ev_same, ev_other, put_size, hs1, f151, f152, f153, f157, f161, f167, f168, f174, ne_eq, Nat.reduceEqDiff, not_false_eq_true, Nat.reduceLT]) (by simp only [ev_same, ev_other, put_size, hs1, f151, f152, f153, f157, f161, f167, f168, f174, ne_eq, Nat.reduceEqDiff, not_false_eq_true, Nat.reduceLT]) d30)
      · have d31 := d26.bs2
        refine OneK.run ho18 hd18 hg18 (ex_bs74 hp18 (by simp only [ev_same, ev_other, put_size, hs1, f151, f152, f153, f157, f161, f167, f168, f174, ne_eq, Nat.reduceEqDiff, not_false_eq_true, Nat.reduceLT]) _) (fun _ => hT _ _ d31.h d31.keeps.1 d31.keeps.2) ?_
        refine wpAnyK_1 (i := 12) (by kernel_rfl) ?_
        · obtain ⟨g1, k1, c1, W32, E32, r32, d32⟩ := d31.ap1 o12.type l1
          refine OneK.run ho12 hd12 hg12 (ex_append hp12 (by simp only [ev_same, ev_other, put_size, hs1, f151, f152, f153, f157, f161, f167, f168, f174, ne_eq, Nat.reduceEqDiff, not_false_eq_true, Nat.reduceLT]) (by simp only [ev_same, ev_other, put_size, hs1, f151, f152, f153, f157, f161, f167, f168, f174, ne_eq, Nat.reduceEqDiff, not_false_eq_true, Nat.reduceLT]) r32) (fun _ => hT _ _ d32.h d32.keeps.1 d32.keeps.2) ?_
          refine wpAnyK_1 (i := 19) (by kernel_rfl) ?_
          · obtain ⟨g2, k2, c2, W33, E33, r33, d33⟩ := d32.ap2 o19.type l2
            refine OneK.run ho19 hd19 hg19 (ex_append hp19 (by simp only [ev_same, ev_other, put_size, hs1, f151, f152, f153, f157, f161, f167, f168, f174, ne_eq, Nat.reduceEqDiff, not_false_eq_true, Nat.reduceLT]) (by simp only [ev_same, ev_other, put_size, hs1, f151, f152, f153, f157, f161, f167, f168, f174, ne_eq, Nat.reduceEqDiff, not_false_eq_true, Nat.reduceLT]) r33) (fun _ => hT _ _ d33.h d33.keeps.1 d33.keeps.2) ?_
            refine wpAnyK_1 (i := 25) (by kernel_rfl) ?_
            · obtain ⟨g3, k3, c3, W34, E34, r34, d34⟩ := d33.ap3 o25.type l3
              refine OneK.run ho25 hd25 hg25 (ex_append hp25 (by simp only [ev_same, ev_other, put_size, hs1, f151, f152, f153, f157, f161, f167, f168, f174, ne_eq, Nat.reduceEqDiff, not_false_eq_true, Nat.reduceLT]) (by simp only [ev_same, ev_other, put_size, hs1, f151, f152, f153, f157, f161, f167, f168, f174, ne_eq, Nat.reduceEqDiff, not_false_eq_true, Nat.reduceLT]) r34) (fun _ => hT _ _ d34.h d34.keeps.1 d34.keeps.2) ?_
              exact wpAnyK_list (by kernel_rfl) (tail _ _ _ _ _ _ _ _ _ _ _ _ _ _ _ ((((((hL.put (d := 162) (by decide) (by decide) _).put (d := 175) (by decide) (by decide) _).put (d := 169) (by decide) (by decide) _).put (d := 163) (by decide) (by decide) _).put (d := 170) (by decide) (by decide) _).put (d := 176) (by decide) (by decide) _) (by simp only [ev_same, ev_other, put_size, hs1, f151, f152, f153, f157, f161, f167, f168, f174, ne_eq, Nat.reduceEqDiff, not_false_eq_true, Nat.reduceLT]) (by simp only [ev_same, ev_other, put_size, hs1, f151, f152, f153, f157, f161, f167, f168, f174, ne_eq, Nat.reduceEqDiff, not_false_eq_true, Nat.reduceLT]) (by simp only [ev_same, ev_other, put_size, hs1, f151, f152, f153, f157, f161, f167, f168, f174, ne_eq, Nat.reduceEqDiff, not_false_eq_true, Nat.reduceLT]) (by simp only [ev_same, ev_other, put_size, hs1, f151, f152, f153, f157, f161, f167, f168, f174, ne_eq, Nat.reduceEqDiff, not_false_eq_true, Nat.reduceLT]) (by simp only [ev_same, ev_other, put_size, hs1, f151, f152, f153, f157, f161, f167, f168, f174, ne_eq, Nat.reduceEqDiff, not_false_eq_true, Nat.reduceLT]) (by simp only [ev_same, ev_other, put_size, hs1, f151, f152, f153, f157, f161, f167, f168, f174, ne_eq, Nat.reduceEqDiff, not_false_eq_true, Nat.reduceLT]) d34)
  · have d35 := d0.bs2
    refine OneK.run ho18 hd18 hg18 (ex_bs74 hp18 (by simp only [ev_same, ev_other, put_size, hs1, f151, f152, f153, f157, f161, f167, f168, f174, ne_eq, Nat.reduceEqDiff, not_false_eq_true, Nat.reduceLT]) _) (fun _ => hT _ _ d35.h d35.keeps.1 d35.keeps.2) ?_
    refine wpAnyK_2 (i := 11) (j := 24) (by kernel_rfl) ?_ ?_
    · have d36 := d35.bs1
      refine OneK.run ho11 hd11 hg11 (ex_bs26 hp11 (by simp only [ev_same, ev_other, put_size, hs1, f151, f152, f153, f157, f161, f167, f168, f174, ne_eq, Nat.reduceEqDiff, not_false_eq_true, Nat.reduceLT]) _) (fun _ => hT _ _ d36.h d36.keeps.1 d36.keeps.2) ?_
      refine wpAnyK_2 (i := 12) (j := 24) (by kernel_rfl) ?_ ?_
      · obtain ⟨g1, k1, c1, W37, E37, r37, d37⟩ := d36.ap1 o12.type l1
        refine OneK.run ho12 hd12 hg12 (ex_append hp12 (by simp only [ev_same, ev_other, put_size, hs1, f151, f152, f153, f157, f161, f167, f168, f174, ne_eq, Nat.reduceEqDiff, not_false_eq_true, Nat.reduceLT]) (by simp only [ev_same, ev_other, put_size, hs1, f151, f152, f153, f157, f161, f167, f168, f174, ne_eq, Nat.reduceEqDiff, not_false_eq_true, Nat.reduceLT]) r37) (fun _ => hT _ _ d37.h d37.keeps.1 d37.keeps.2) ?_
        refine wpAnyK_2 (i := 19) (j := 24) (by kernel_rfl) ?_ ?_
        · obtain ⟨g2, k2, c2, W38, E38, r38, d38⟩ := d37.ap2 o19.type l2
          refine OneK.run ho19 hd19 hg19 (ex_append hp19 (by simp only [ev_same, ev_other, put_size, hs1, f151, f152, f153, f157, f161, f167, f168, f174, ne_eq, Nat.reduceEqDiff, not_false_eq_true, Nat.reduceLT]) (by simp only [ev_same, ev_other, put_size, hs1, f151, f152, f153, f157, f161, f167, f168, f174, ne_eq, Nat.reduceEqDiff, not_false_eq_true, Nat.reduceLT]) r38) (fun _ => hT _ _ d38.h d38.keeps.1 d38.keeps.2) ?_
          refine wpAnyK_1 (i := 24) (by kernel_rfl) ?_
          · have d39 := d38.bs3
            refine OneK.run ho24 hd24 hg24 (ex_bs56 hp24 rfl _) (fun _ => hT _ _ d39.h d39.keeps.1 d39.keeps.2) ?_
            refine wpAnyK_1 (i := 25) (by kernel_rfl) ?_
            · obtain ⟨g3, k3, c3, W40, E40, r40, d40⟩ := d39.ap3 o25.type l3
              refine OneK.run ho25 hd25 hg25 (ex_append hp25 (by simp only [ev_same, ev_other, put_size, hs1, f151, f152, f153, f157, f161, f167, f168, f174, ne_eq, Nat.reduceEqDiff, not_false_eq_true, Nat.reduceLT]) (by simp only [ev_same, ev_other, put_size, hs1, f151, f152, f153, f157, f161, f167, f168, f174, ne_eq, Nat.reduceEqDiff, not_false_eq_true, Nat.reduceLT]) r40) (fun _ => hT _ _ d40.h d40.keeps.1 d40.keeps.2) ?_
              exact wpAnyK_list (by kernel_rfl) (tail _ _ _ _ _ _ _ _ _ _ _ _ _ _ _ ((((((hL.put (d := 169) (by decide) (by decide) _).put (d := 162) (by decide) (by decide) _).put (d := 163) (by decide) (by decide) _).put (d := 170) (by decide) (by decide) _).put (d := 175) (by decide) (by decide) _).put (d := 176) (by decide) (by decide) _) (by simp only [ev_same, ev_other, put_size, hs1, f151, f152, f153, f157, f161, f167, f168, f174, ne_eq, Nat.reduceEqDiff, not_false_eq_true, Nat.reduceLT]) (by simp only [ev_same, ev_other, put_size, hs1, f151, f152, f153, f157, f161, f167, f168, f174, ne_eq, Nat.reduceEqDiff, not_false_eq_true, Nat.reduceLT]) (by simp only [ev_same, ev_other, put_size, hs1, f151, f152, f153, f157, f161, f167, f168, f174, ne_eq, Nat.reduceEqDiff, not_false_eq_true, Nat.reduceLT]) (by simp only [ev_same, ev_other, put_size, hs1, f151, f152, f153, f157, f161, f167, f168, f174, ne_eq, Nat.reduceEqDiff, not_false_eq_true, Nat.reduceLT]) (by simp only [ev_same, ev_other, put_size, hs1, f151, f152, f153, f157, f161, f167, f168, f174, ne_eq, Nat.reduceEqDiff, not_false_eq_true, Nat.reduceLT]) (by simp only [ev_same, ev_other, put_size, hs1, f151, f152, f153, f157, f161, f167, f168, f174, ne_eq, Nat.reduceEqDiff, not_false_eq_true, Nat.reduceLT]) d40)
        · have d41 := d37.bs3
          refine OneK.run ho24 hd24 hg24 (ex_bs56 hp24 rfl _) (fun _ => hT _ _ d41.h d41.keeps.1 d41.keeps.2) ?_
          refine wpAnyK_1 (i := 19) (by kernel_rfl) ?_
          · obtain ⟨g2, k2, c2, W42, E42, r42, d42⟩ := d41.ap2 o19.type l2
            refine OneK.run ho19 hd19 hg19 (ex_append hp19 (by simp only [ev_same, ev_other, put_size, hs1, f151, f152, f153, f157, f161, f167, f168, f174, ne_eq, Nat.reduceEqDiff, not_false_eq_true, Nat.reduceLT]) (by simp only [ev_same, ev_other, put_size, hs1, f151, f152, f153, f157, f161, f167, f168, f174, ne_eq, Nat.reduceEqDiff, not_false_eq_true, Nat.reduceLT]) r42) (fun _ => hT _ _ d42.h d42.keeps.1 d42.keeps.2) ?_
            refine wpAnyK_1 (i := 25) (by kernel_rfl) ?_
            · obtain ⟨g3, k3, c3, W43, E43, r43, d43⟩ := d42.ap3 o25.type l3
              refine OneK.run ho25 hd25 hg25 (ex_append hp25 (by simp only [ev_same, ev_other, put_size, hs1, f151, f152, f153, f157, f161, f167, f168, f174, ne_eq, Nat.reduceEqDiff, not_false_eq_true, Nat.reduceLT]) (by simp only [ev_same, ev_other, put_size, hs1, f151, f152, f153, f157, f161, f167, f168, f174, ne_eq, Nat.reduceEqDiff, not_false_eq_true, Nat.reduceLT]) r43) (fun _ => hT _ _ d43.h d43.keeps.1 d43.keeps.2) ?_
              exact wpAnyK_list (by kernel_rfl) (tail _ _ _ _ _ _ _ _ _ _ _ _ _ _ _ ((((((hL.put (d := 169) (by decide) (by decide) _).put (d := 162) (by decide) (by decide) _).put (d := 163) (by decide) (by decide) _).put (d := 175) (by decide) (by decide) _).put (d := 170) (by decide) (by decide) _).put (d := 176) (by decide) (by decide) _) (by simp only [ev_same, ev_other, put_size, hs1, f151, f152, f153, f157, f161, f167, f168, f174, ne_eq, Nat.reduceEqDiff, not_false_eq_true, Nat.reduceLT]) (by simp only [ev_same, ev_other, put_size, hs1, f151, f152, f153, f157, f161, f167, f168, f174, ne_eq, Nat.reduceEqDiff, not_false_eq_true, Nat.reduceLT]) (by simp only [ev_same, ev_other, put_size, hs1, f151, f152, f153, f157, f161, f167, f168, f174, ne_eq, Nat.reduceEqDiff, not_false_eq_true, Nat.reduceLT]) (by simp only [ev_same, ev_other, put_size, hs1, f151, f152, f153, f157, f161, f167, f168, f174, ne_eq, Nat.reduceEqDiff, not_false_eq_true, Nat.reduceLT]) (by simp only [ev_same, ev_other, put_size, hs1, f151, f152, f153, f157, f161, f167, f168, f174, ne_eq, Nat.reduceEqDiff, not_false_eq_true, Nat.reduceLT]) (by simp only [ev_same, ev_other, put_size, hs1, f151, f152, f153, f157, f161, f167, f168, f174, ne_eq, Nat.reduceEqDiff, not_false_eq_true, Nat.reduceLT]) d43)
      · have d44 := d36.bs3
        refine OneK.run ho24 hd24 hg24 (ex_bs56 hp24 rfl _) (fun _ => hT _ _ d44.h d44.keeps.1 d44.keeps.2) ?_
        refine wpAnyK_1 (i := 12) (by kernel_rfl) ?_
        · obtain ⟨g1, k1, c1, W45, E45, r45, d45⟩ := d44.ap1 o12.type l1
          refine OneK.run ho12 hd12 hg12 (ex_append hp12 (by simp only [ev_same, ev_other, put_size, hs1, f151, f152, f153, f157, f161, f167, f168, f174, ne_eq, Nat.reduceEqDiff, not_false_eq_true, Nat.reduceLT]) (by simp only [ev_same, ev_other, put_size, hs1, f151, f152, f153, f157, f161, f167, f168, f174, ne_eq, Nat.reduceEqDiff, not_false_eq_true, Nat.reduceLT]) r45) (fun _ => hT _ _ d45.h d45.keeps.1 d45.keeps.2) ?_
          refine wpAnyK_1 (i := 19) (by kernel_rfl) ?_
          · obtain ⟨g2, k2, c2, W46, E46, r46, d46⟩ := d45.ap2 o19.type l2
            refine OneK.run ho19 hd19 hg19 (ex_append hp19 (by simp only [ev_same, ev_other, put_size, hs1, f151, f152, f153, f157, f161, f167, f168, f174, ne_eq, Nat.reduceEqDiff, not_false_eq_true, Nat.reduceLT]) (by simp only [ev_same, ev_other, put_size, hs1, f151, f152, f153, f157, f161, f167, f168, f174, ne_eq, Nat.reduceEqDiff, not_false_eq_true, Nat.reduceLT]) r46) (fun _ => hT _ _ d46.h d46.keeps.1 d46.keeps.2) ?_
            refine wpAnyK_1 (i := 25) (by kernel_rfl) ?_
            · obtain ⟨g3, k3, c3, W47, E47, r47, d47⟩ := d46.ap3 o25.type l3
              refine OneK.run ho25 hd25 hg25 (ex_append hp25 (by simp only [ev_same, ev_other, put_size, hs1, f151, f152, f153, f157, f161, f167, f168, f174, ne_eq, Nat.reduceEqDiff, not_false_eq_true, Nat.reduceLT]) (by simp only [ev_same, ev_other, put_size, hs1, f151, f152, f153, f157, f161, f167, f168, f174, ne_eq, Nat.reduceEqDiff, not_false_eq_true, Nat.reduceLT]) r47) (fun _ => hT _ _ d47.h d47.keeps.1 d47.keeps.2) ?_
              exact wpAnyK_list (by kernel_rfl) (tail _ _ _ _ _ _ _ _ _ _ _ _ _ _ _ ((((((hL.put (d := 169) (by decide) (by decide) _).put (d := 162) (by decide) (by decide) _).put (d := 175) (by decide) (by decide) _).put (d := 163) (by decide) (by decide) _).put (d := 170) (by decide) (by decide) _).put (d := 176) (by decide) (by decide) _) (by simp only [ev_same, ev_other, put_size, hs1, f151, f152, f153, f157, f161, f167, f168, f174, ne_eq, Nat.reduceEqDiff, not_false_eq_true, Nat.reduceLT]) (by simp only [ev_same, ev_other, put_size, hs1, f151, f152, f153, f157, f161, f167, f168, f174, ne_eq, Nat.reduceEqDiff, not_false_eq_true, Nat.reduceLT]) (by simp only [ev_same, ev_other, put_size, hs1, f151, f152, f153, f157, f161, f167, f168, f174, ne_eq, Nat.reduceEqDiff, not_false_eq_true, Nat.reduceLT]) (by simp only [ev_same, ev_other, put_size, hs1, f151, f152, f153, f157, f161, f167, f168, f174, ne_eq, Nat.reduceEqDiff, not_false_eq_true, Nat.reduceLT]) (by simp only [ev_same, ev_other, put_size, hs1, f151, f152, f153, f157, f161, f167, f168, f174, ne_eq, Nat.reduceEqDiff, not_false_eq_true, Nat.reduceLT]) (by simp only [ev_same, ev_other, put_size, hs1, f151, f152, f153, f157, f161, f167, f168, f174, ne_eq, Nat.reduceEqDiff, not_false_eq_true, Nat.reduceLT]) d47)
    · have d48 := d35.bs3
      refine OneK.run ho24 hd24 hg24 (ex_bs56 hp24 rfl _) (fun _ => hT _ _ d48.h d48.keeps.1 d48.keeps.2) ?_
      refine wpAnyK_1 (i := 11) (by kernel_rfl) ?_
      · have d49 := d48.bs1
        refine OneK.run ho11 hd11 hg11 (ex_bs26 hp11 (by simp only [ev_same, ev_other, put_size, hs1, f151, f152, f153, f157, f161, f167, f168, f174, ne_eq, Nat.reduceEqDiff, not_false_eq_true, Nat.reduceLT]) _) (fun _ => hT _ _ d49.h d49.keeps.1 d49.keeps.2) ?_
        refine wpAnyK_1 (i := 12) (by kernel_rfl) ?_
        · obtain ⟨g1, k1, c1, W50, E50, r50, d50⟩ := d49.ap1 o12.type l1
          refine OneK.run ho12 hd12 hg12 (ex_append hp12 (by simp only [ev_same, ev_other, put_size, hs1, f151, f152, f153, f157, f161, f167, f168, f174, ne_eq, Nat.reduceEqDiff, not_false_eq_true, Nat.reduceLT]) (by simp only [ev_same, ev_other, put_size, hs1, f151, f152, f153, f157, f161, f167, f168, f174, ne_eq, Nat.reduceEqDiff, not_false_eq_true, Nat.reduceLT]) r50) (fun _ => hT _ _ d50.h d50.keeps.1 d50.keeps.2) ?_
          refine wpAnyK_1 (i := 19) (by kernel_rfl) ?_
          · obtain ⟨g2, k2, c2, W51, E51, r51, d51⟩ := d50.ap2 o19.type l2
            refine OneK.run ho19 hd19 hg19 (ex_append hp19 (by simp only [ev_same, ev_other, put_size, hs1, f151, f152, f153, f157, f161, f167, f168, f174, ne_eq, Nat.reduceEqDiff, not_false_eq_true, Nat.reduceLT]) (by simp only [ev_same, ev_other, put_size, hs1, f151, f152, f153, f157, f161, f167, f168, f174, ne_eq, Nat.reduceEqDiff, not_false_eq_true, Nat.reduceLT]) r51) (fun _ => hT _ _ d51.h d51.keeps.1 d51.keeps.2) ?_
            refine wpAnyK_1 (i := 25) (by kernel_rfl) ?_
            · obtain ⟨g3, k3, c3, W52, E52, r52, d52⟩ := d51.ap3 o25.type l3
              refine OneK.run ho25 hd25 hg25 (ex_append hp25 (by simp only [ev_same, ev_other, put_size, hs1, f151, f152, f153, f157, f161, f167, f168, f174, ne_eq, Nat.reduceEqDiff, not_false_eq_true, Nat.reduceLT]) (by simp only [ev_same, ev_other, put_size, hs1, f151, f152, f153, f157, f161, f167, f168, f174, ne_eq, Nat.reduceEqDiff, not_false_eq_true, Nat.reduceLT]) r52) (fun _ => hT _ _ d52.h d52.keeps.1 d52.keeps.2) ?_
              exact wpAnyK_list (by kernel_rfl) (tail _ _ _ _ _ _ _ _ _ _ _ _ _ _ _ ((((((hL.put (d := 169) (by decide) (by decide) _).put (d := 175) (by decide) (by decide) _).put (d := 162) (by decide) (by decide) _).put (d := 163) (by decide) (by decide) _).put (d := 170) (by decide) (by decide) _).put (d := 176) (by decide) (by decide) _) (by simp only [ev_same, ev_other, put_size, hs1, f151, f152, f153, f157, f161, f167, f168, f174, ne_eq, Nat.reduceEqDiff, not_false_eq_true, Nat.reduceLT]) (by simp only [ev_same, ev_other, put_size, hs1, f151, f152, f153, f157, f161, f167, f168, f174, ne_eq, Nat.reduceEqDiff, not_false_eq_true, Nat.reduceLT]) (by simp only [ev_same, ev_other, put_size, hs1, f151, f152, f153, f157, f161, f167, f168, f174, ne_eq, Nat.reduceEqDiff, not_false_eq_true, Nat.reduceLT]) (by simp only [ev_same, ev_other, put_size, hs1, f151, f152, f153, f157, f161, f167, f168, f174, ne_eq, Nat.reduceEqDiff, not_false_eq_true, Nat.reduceLT]) (by simp only [ev_same, ev_other, put_size, hs1, f151, f152, f153, f157, f161, f167, f168, f174, ne_eq, Nat.reduceEqDiff, not_false_eq_true, Nat.reduceLT]) (by simp only [ev_same, ev_other, put_size, hs1, f151, f152, f153, f157, f161, f167, f168, f174, ne_eq, Nat.reduceEqDiff, not_false_eq_true, Nat.reduceLT]) d52)
  · have d53 := d0.bs3
    refine OneK.run ho24 hd24 hg24 (ex_bs56 hp24 rfl _) (fun _ => hT _ _ d53.h d53.keeps.1 d53.keeps.2) ?_
    refine wpAnyK_2 (i := 11) (j := 18) (by kernel_rfl) ?_ ?_
    · have d54 := d53.bs1
      refine OneK.run ho11 hd11 hg11 (ex_bs26 hp11 (by simp only [ev_same, ev_other, put_size, hs1, f151, f152, f153, f157, f161, f167, f168, f174, ne_eq, Nat.reduceEqDiff, not_false_eq_true, Nat.reduceLT]) _) (fun _ => hT _ _ d54.h d54.keeps.1 d54.keeps.2) ?_
      refine wpAnyK_2 (i := 12) (j := 18) (by kernel_rfl) ?_ ?_
      · obtain ⟨g1, k1, c1, W55, E55, r55, d55⟩ := d54.ap1 o12.type l1
        refine OneK.run ho12 hd12 hg12 (ex_append hp12 (by simp only [ev_same, ev_other, put_size, hs1, f151, f152, f153, f157, f161, f167, f168, f174, ne_eq, Nat.reduceEqDiff, not_false_eq_true, Nat.reduceLT]) (by simp only [ev_same, ev_other, put_size, hs1, f151, f152, f153, f157, f161, f167, f168, f174, ne_eq, Nat.reduceEqDiff, not_false_eq_true, Nat.reduceLT]) r55) (fun _ => hT _ _ d55.h d55.keeps.1 d55.keeps.2) ?_
        refine wpAnyK_1 (i := 18) (by kernel_rfl) ?_
        · have d56 := d55.bs2
          refine OneK.run ho18 hd18 hg18 (ex_bs74 hp18 (by simp only [ev_same, ev_other, put_size, hs1, f151, f152, f153, f157, f161, f167, f168, f174, ne_eq, Nat.reduceEqDiff, not_false_eq_true, Nat.reduceLT]) _) (fun _ => hT _ _ d56.h d56.keeps.1 d56.keeps.2) ?_
          refine wpAnyK_1 (i := 19) (by kernel_rfl) ?_
          · obtain ⟨g2, k2, c2, W57, E57, r57, d57⟩ := d56.ap2 o19.type l2
            refine OneK.run ho19 hd19 hg19 (ex_append hp19 (by simp only [ev_same, ev_other, put_size, hs1, f151, f152, f153, f157, f161, f167, f168, f174, ne_eq, Nat.reduceEqDiff, not_false_eq_true, Nat.reduceLT]) (by simp only [ev_same, ev_other, put_size, hs1, f151, f152, f153, f157, f161, f167, f168, f174, ne_eq, Nat.reduceEqDiff, not_false_eq_true, Nat.reduceLT]) r57) (fun _ => hT _ _ d57.h d57.keeps.1 d57.keeps.2) ?_
            refine wpAnyK_1 (i := 25) (by kernel_rfl) ?_
            · obtain ⟨g3, k3, c3, W58, E58, r58, d58⟩ := d57.ap3 o25.type l3
              refine OneK.run ho25 hd25 hg25 (ex_append hp25 (by simp only [ev_same, ev_other, put_size, hs1, f151, f152, f153, f157, f161, f167, f168, f174, ne_eq, Nat.reduceEqDiff, not_false_eq_true, Nat.reduceLT]) (by simp only [ev_same, ev_other, put_size, hs1, f151, f152, f153, f157, f161, f167, f168, f174, ne_eq, Nat.reduceEqDiff, not_false_eq_true, Nat.reduceLT]) r58) (fun _ => hT _ _ d58.h d58.keeps.1 d58.keeps.2) ?_
              exact wpAnyK_list (by kernel_rfl) (tail _ _ _ _ _ _ _ _ _ _ _ _ _ _ _ ((((((hL.put (d := 175) (by decide) (by decide) _).put (d := 162) (by decide) (by decide) _).put (d := 163) (by decide) (by decide) _).put (d := 169) (by decide) (by decide) _).put (d := 170) (by decide) (by decide) _).put (d := 176) (by decide) (by decide) _) (by simp only [ev_same, ev_other, put_size, hs1, f151, f152, f153, f157, f161, f167, f168, f174, ne_eq, Nat.reduceEqDiff, not_false_eq_true, Nat.reduceLT]) (by simp only [ev_same, ev_other, put_size, hs1, f151, f152, f153, f157, f161, f167, f168, f174, ne_eq, Nat.reduceEqDiff, not_false_eq_true, Nat.reduceLT]) (by simp only [ev_same, ev_other, put_size, hs1, f151, f152, f153, f157, f161, f167, f168, f174, ne_eq, Nat.reduceEqDiff, not_false_eq_true, Nat.reduceLT]) (by simp only [ev_same, ev_other, put_size, hs1, f151, f152, f153, f157, f161, f167, f168, f174, ne_eq, Nat.reduceEqDiff, not_false_eq_true, Nat.reduceLT]) (by simp only [ev_same, ev_other, put_size, hs1, f151, f152, f153, f157, f161, f167, f168, f174, ne_eq, Nat.reduceEqDiff, not_false_eq_true, Nat.reduceLT]) (by simp only [ev_same, ev_other, put_size, hs1, f151, f152, f153, f157, f161, f167, f168, f174, ne_eq, Nat.reduceEqDiff, not_false_eq_true, Nat.reduceLT]) d58)
      · have d59 := d54.bs2
        refine OneK.run ho18 hd18 hg18 (ex_bs74 hp18 (by simp only [ev_same, ev_other, put_size, hs1, f151, f152, f153, f157, f161, f167, f168, f174, ne_eq, Nat.reduceEqDiff, not_false_eq_true, Nat.reduceLT]) _) (fun _ => hT _ _ d59.h d59.keeps.1 d59.keeps.2) ?_
        refine wpAnyK_1 (i := 12) (by kernel_rfl) ?_
        · obtain ⟨g1, k1, c1, W60, E60, r60, d60⟩ := d59.ap1 o12.type l1
          refine OneK.run ho12 hd12 hg12 (ex_append hp12 (by simp only [ev_same, ev_other, put_size, hs1, f151, f152, f153, f157, f161, f167, f168, f174, ne_eq, Nat.reduceEqDiff, not_false_eq_true, Nat.reduceLT]) (by simp only [ev_same, ev_other, put_size, hs1, f151, f152, f153, f157, f161, f167, f168, f174, ne_eq, Nat.reduceEqDiff, not_false_eq_true, Nat.reduceLT]) r60) (fun _ => hT _ _ d60.h d60.keeps.1 d60.keeps.2) ?_
          refine wpAnyK_1 (i := 19) (by kernel_rfl) ?_
          · obtain ⟨g2, k2, c2, W61, E61, r61, d61⟩ := d60.ap2 o19.type l2
            refine OneK.run ho19 hd19 hg19 (ex_append hp19 (by simp only [ev_same, ev_other, put_size, hs1, f151, f152, f153, f157, f161, f167, f168, f174, ne_eq, Nat.reduceEqDiff, not_false_eq_true, Nat.reduceLT]) (by simp only [ev_same, ev_other, put_size, hs1, f151, f152, f153, f157, f161, f167, f168, f174, ne_eq, Nat.reduceEqDiff, not_false_eq_true, Nat.reduceLT]) r61) (fun _ => hT _ _ d61.h d61.keeps.1 d61.keeps.2) ?_
            refine wpAnyK_1 (i := 25) (by kernel_rfl) ?_
            · obtain ⟨g3, k3, c3, W62, E62, r62, d62⟩ := d61.ap3 o25.type l3
              refine OneK.run ho25 hd25 hg25 (ex_append hp25 (by simp only [ev_same, ev_other, put_size, hs1, f151, f152, f153, f157, f161, f167, f168, f174, ne_eq, Nat.reduceEqDiff, not_false_eq_true, Nat.reduceLT]) (by simp only [ev_same, ev_other, put_size, hs1, f151, f152, f153, f157, f161, f167, f168, f174, ne_eq, Nat.reduceEqDiff, not_false_eq_true, Nat.reduceLT]) r62) (fun _ => hT _ _ d62.h d62.keeps.1 d62.keeps.2) ?_
              exact wpAnyK_list (by kernel_rfl) (tail _ _ _ _ _ _ _ _ _ _ _ _ _ _ _ ((((((hL.put (d := 175) (by decide) (by decide) _).put (d := 162) (by decide) (by decide) _).put (d := 169) (by decide) (by decide) _).put (d := 163) (by decide) (by decide) _).put (d := 170) (by decide) (by decide) _).put (d := 176) (by decide) (by decide) _) (by simp only [ev_same, ev_other, put_size, hs1, f151, f152, f153, f157, f161, f167, f168, f174, ne_eq, Nat.reduceEqDiff, not_false_eq_true, Nat.reduceLT]) (by simp only [ev_same, ev_other, put_size, hs1, f151, f152, f153, f157, f161, f167, f168, f174, ne_eq, Nat.reduceEqDiff, not_false_eq_true, Nat.reduceLT]) (by simp only [ev_same, ev_other, put_size, hs1, f151, f152, f153, f157, f161, f167, f168, f174, ne_eq, Nat.reduceEqDiff, not_false_eq_true, Nat.reduceLT]) (by simp only [ev_same, ev_other, put_size, hs1, f151, f152, f153, f157, f161, f167, f168, f174, ne_eq, Nat.reduceEqDiff, not_false_eq_true, Nat.reduceLT]) (by simp only [ev_same, ev_other, put_size, hs1, f151, f152, f153, f157, f161, f167, f168, f174, ne_eq, Nat.reduceEqDiff, not_false_eq_true, Nat.reduceLT]) (by simp only [ev_same, ev_other, put_size, hs1, f151, f152, f153, f157, f161, f167, f168, f174, ne_eq, Nat.reduceEqDiff, not_false_eq_true, Nat.reduceLT]) d62)
    · have d63 := d53.bs2
      refine OneK.run ho18 hd18 hg18 (ex_bs74 hp18 (by simp only [ev_same, ev_other, put_size, hs1, f151, f152, f153, f157, f161, f167, f168, f174, ne_eq, Nat.reduceEqDiff, not_false_eq_true, Nat.reduceLT]) _) (fun _ => hT _ _ d63.h d63.keeps.1 d63.keeps.2) ?_
      refine wpAnyK_1 (i := 11) (by kernel_rfl) ?_
      · have d64 := d63.bs1
        refine OneK.run ho11 hd11 hg11 (ex_bs26 hp11 (by simp only [ev_same, ev_other, put_size, hs1, f151, f152, f153, f157, f161, f167, f168, f174, ne_eq, Nat.reduceEqDiff, not_false_eq_true, Nat.reduceLT]) _) (fun _ => hT _ _ d64.h d64.keeps.1 d64.keeps.2) ?_
        refine wpAnyK_1 (i := 12) (by kernel_rfl) ?_
        · obtain ⟨g1, k1, c1, W65, E65, r65, d65⟩ := d64.ap1 o12.type l1
          refine OneK.run ho12 hd12 hg12 (ex_append hp12 (by simp only [ev_same, ev_other, put_size, hs1, f151, f152, f153, f157, f161, f167, f168, f174, ne_eq, Nat.reduceEqDiff, not_false_eq_true, Nat.reduceLT]) (by simp only [ev_same, ev_other, put_size, hs1, f151, f152, f153, f157, f161, f167, f168, f174, ne_eq, Nat.reduceEqDiff, not_false_eq_true, Nat.reduceLT]) r65) (fun _ => hT _ _ d65.h d65.keeps.1 d65.keeps.2) ?_
          refine wpAnyK_1 (i := 19) (by kernel_rfl) ?_
          · obtain ⟨g2, k2, c2, W66, E66, r66, d66⟩ := d65.ap2 o19.type l2
            refine OneK.run ho19 hd19 hg19 (ex_append hp19 (by simp only [ev_same, ev_other, put_size, hs1, f151, f152, f153, f157, f161, f167, f168, f174, ne_eq, Nat.reduceEqDiff, not_false_eq_true, Nat.reduceLT]) (by simp only [ev_same, ev_other, put_size, hs1, f151, f152, f153, f157, f161, f167, f168, f174, ne_eq, Nat.reduceEqDiff, not_false_eq_true, Nat.reduceLT]) r66) (fun _ => hT _ _ d66.h d66.keeps.1 d66.keeps.2) ?_
            refine wpAnyK_1 (i := 25) (by kernel_rfl) ?_
            · obtain ⟨g3, k3, c3, W67, E67, r67, d67⟩ := d66.ap3 o25.type l3
              refine OneK.run ho25 hd25 hg25 (ex_append hp25 (by simp only [ev_same, ev_other, put_size, hs1, f151, f152, f153, f157, f161, f167, f168, f174, ne_eq, Nat.reduceEqDiff, not_false_eq_true, Nat.reduceLT]) (by simp only [ev_same, ev_other, put_size, hs1, f151, f152, f153, f157, f161, f167, f168, f174, ne_eq, Nat.reduceEqDiff, not_false_eq_true, Nat.reduceLT]) r67) (fun _ => hT _ _ d67.h d67.keeps.1 d67.keeps.2) ?_
              exact wpAnyK_list (by kernel_rfl) (tail _ _ _ _ _ _ _ _ _ _ _ _ _ _ _ ((((((hL.put (d := 175) (by decide) (by decide) _).put (d := 169) (by decide) (by decide) _).put (d := 162) (by decide) (by decide) _).put (d := 163) (by decide) (by decide) _).put (d := 170) (by decide) (by decide) _).put (d := 176) (by decide) (by decide) _) (by simp only [ev_same, ev_other, put_size, hs1, f151, f152, f153, f157, f161, f167, f168, f174, ne_eq, Nat.reduceEqDiff, not_false_eq_true, Nat.reduceLT]) (by simp only [ev_same, ev_other, put_size, hs1, f151, f152, f153, f157, f161, f167, f168, f174, ne_eq, Nat.reduceEqDiff, not_false_eq_true, Nat.reduceLT]) (by simp only [ev_same, ev_other, put_size, hs1, f151, f152, f153, f157, f161, f167, f168, f174, ne_eq, Nat.reduceEqDiff, not_false_eq_true, Nat.reduceLT]) (by simp only [ev_same, ev_other, put_size, hs1, f151, f152, f153, f157, f161, f167, f168, f174, ne_eq, Nat.reduceEqDiff, not_false_eq_true, Nat.reduceLT]) (by simp only [ev_same, ev_other, put_size, hs1, f151, f152, f153, f157, f161, f167, f168, f174, ne_eq, Nat.reduceEqDiff, not_false_eq_true, Nat.reduceLT]) (by simp only [ev_same, ev_other, put_size, hs1, f151, f152, f153, f157, f161, f167, f168, f174, ne_eq, Nat.reduceEqDiff, not_false_eq_true, Nat.reduceLT]) d67)
end Go.Proofs.Ybulkeaca.CW
