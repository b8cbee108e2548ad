import Derived.Test.YbulkeacaK4
namespace Go.Proofs.Ybulkeaca.CW
open Go.RowKit Go.Proofs.Ybulkeaca.Kit
set_option linter.unusedSimpArgs false
section
variable {ρ : Operand → Value} {o : Oper} {w : World}
theorem ex_f70_17 {x : Operand} {b f : Nat} (h : o.op = .fieldAddr 70 x 17) (hx : ρ x = .pointer (some ⟨b, f, none⟩)) (w : World) : (execOp ρ o).run Yba.prog w = .ok (.value (.pointer (some ⟨b, f + 19, none⟩))) w := by
  unfold execOp; rw [h]; simp [go_sem, hx]
theorem ex_l53 {x : Operand} {b f : Nat} {v : Value} (h : o.op = .load 53 x) (hx : ρ x = .pointer (some ⟨b, f, none⟩)) (hv : w.cell? ⟨b, f, none⟩ = some v) : (execOp ρ o).run Yba.prog w = .ok (.value v) w := by
  unfold execOp; rw [h]; simp [go_sem, hx, hv]
theorem ex_len72 {x : Operand} {z : Option Addr} {n c : Nat} (h : o.op = .call { callee := .builtin .len, args := #[x], argTypes := #[72] }) (hx : ρ x = .slice z n c) (w : World) : (execOp ρ o).run Yba.prog w = .ok (.value (vi n)) w := by
  unfold execOp; rw [h]; simp [go_sem, hx]
theorem ex_look {x y : Operand} {u v r : Value} (h : o.op = .lookup 53 x y false) (hx : ρ x = u) (hy : ρ y = v) (hr : (Instr.lookup 53 u v false).run Yba.prog w = .ok r w) : (execOp ρ o).run Yba.prog w = .ok (.value r) w := by
  unfold execOp; rw [h]; simp only [hx, hy, Sem.run_bind, hr, Result.andThen_ok, Sem.run_pure]
theorem ex_fld90 {x : Operand} {b : Nat} {p : Int} (h : o.op = .field 90 x 0) (hx : ρ x = .agg #[pt b, vi p]) (w : World) : (execOp ρ o).run Yba.prog w = .ok (.value (pt b)) w := by
  have hfd : ∀ w : World, (Instr.field 90 (.agg #[pt b, vi p]) 0).run Yba.prog w = .ok (pt b) w := fun _ => by kernel_rfl
  unfold execOp; rw [h]; simp only [hx, Sem.run_bind, hfd, Result.andThen_ok, Sem.run_pure]
theorem ex_bs72 {x : Operand} {b : Nat} (h : o.op = .buildSlice 72 1 #[(0, x)]) (hx : ρ x = pt b) (w : World) : (execOp ρ o).run Yba.prog w = .ok (.value (.slice (some ⟨w.heap.size, 0, none⟩) 1 1)) (w.alloc (row [pt b] 88)) := by
  unfold execOp; rw [h]; simp [go_sem, hx]
theorem ex_asg {x : Operand} {v : Value} (h : o.op = .assign x) (hx : ρ x = v) (w : World) : (execOp ρ o).run Yba.prog w = .ok (.value v) w := by
  unfold execOp; rw [h, ← hx]; rfl
end
noncomputable def R75 : Array Oper := opsAt Yba.f3 75
theorem sel75 : Region.noSelect R75 = true := by kernel_rfl

set_option maxRecDepth 100000 in
set_option maxHeartbeats 4000000 in
theorem region75 {Q : Exit → Act → World → Prop} {a : Act} {w0 w : World} {D : Desc} {M : Mod} {P pts : Nat → Nat} {mb lrb pb gs ns cap np pc gl ll lc f : Nat} {pa : Option Addr} {cs stC mlC xs : List Value} (hsz : a.tmps.size = 761) (e6 : a.eval (.tmp 6) = .slice (some ⟨pb, 0, none⟩) 6 6) (e8 : a.eval (.tmp 8) = pt lrb) (e12 : a.eval (.tmp 12) = .slice (some ⟨gs, 0, none⟩) ns cap) (e13 : a.eval (.tmp 13) = .slice pa np pc) (hlt : (np : Int) < ns) (hll : (0 : Int) < ll)
    (h : Holds w0 w D) (rd : RealD D M P pts mb) (hlr : D .lr = some (lrb, row cs 70)) (h19 : cs[19]? = some (.map (some mb))) (hsts : D .sts = some (gs, row stC 76)) (hc : stC[np * 3]? = some (.slice (some ⟨gl, 0, none⟩) ll lc)) (hml : D (.ml np) = some (gl, row mlC 3)) (hm0 : mlC[0]? = some (vi f)) (hf : f < 6) (hS : M.S f = np) (hpool : D .pool = some (pb, row (rowF 6 fun f => pt (P f)) 27)) (hptr : Sl D .ptrs 88 1 (.slice pa np pc) xs) (hl : xs.length ≤ 10000000)
    (hQ : ∀ us w' D' g k c, Holds w0 w' D' → Sl D' .ptrs 88 1 (.slice (some ⟨g, 0, none⟩) k c) (xs ++ [pt (pts np)]) → (∀ t, (∀ m, t ≠ .x m) → t ≠ .ptrs → D' t = D t) → Q .normal ((puts a us ((List.range 20).map (· + 328))).put (some 13) (.slice (some ⟨g, 0, none⟩) k c)) w') :
    (Code.region 75 R75 true).wp Yba.prog Q a w := by
  obtain ⟨o0, ho0, hd0, hg0, hp0⟩ := op_at (ops := R75) (i := 0) (d := some 328) (p := .move (.tmp 13)) (by kernel_rfl)
  obtain ⟨o1, ho1, hd1, hg1, hp1⟩ := op_at (ops := R75) (i := 1) (d := some 329) (p := .move (.tmp 8)) (by kernel_rfl)
  obtain ⟨o2, ho2, hd2, hg2, hp2⟩ := op_at (ops := R75) (i := 2) (d := some 330) (p := .nilCheck (.tmp 329)) (by kernel_rfl)
  obtain ⟨o3, ho3, hd3, hg3, hp3⟩ := op_at (ops := R75) (i := 3) (d := some 331) (p := .fieldAddr 70 (.tmp 330) 17) (by kernel_rfl)
  obtain ⟨o4, ho4, hd4, hg4, hp4⟩ := op_at (ops := R75) (i := 4) (d := some 332) (p := .load 53 (.tmp 331)) (by kernel_rfl)
  obtain ⟨o5, ho5, hd5, hg5, hp5⟩ := op_at (ops := R75) (i := 5) (d := some 333) (p := .move (.tmp 6)) (by kernel_rfl)
  obtain ⟨o6, ho6, hd6, hg6, hp6⟩ := op_at (ops := R75) (i := 6) (d := some 334) (p := .move (.tmp 12)) (by kernel_rfl)
  obtain ⟨o7, ho7, hd7, hg7, hp7⟩ := op_at (ops := R75) (i := 7) (d := some 335) (p := .move (.tmp 13)) (by kernel_rfl)
  obtain ⟨o8, ho8, hd8, hg8, hp8⟩ := op_at (ops := R75) (i := 8) (d := some 336) (p := .call { callee := .builtin .len, args := #[.tmp 335], argTypes := #[72] }) (by kernel_rfl)
  obtain ⟨o9, ho9, hd9, hg9, hp9⟩ := op_at (ops := R75) (i := 9) (d := some 337) (p := .indexAddr 71 (.tmp 334) (.tmp 336)) (by kernel_rfl)
  obtain ⟨o10, ho10, hd10, hg10, hp10⟩ := op_at (ops := R75) (i := 10) (d := some 338) (p := .fieldAddr 76 (.tmp 337) 0) (by kernel_rfl)
  obtain ⟨o11, ho11, hd11, hg11, hp11⟩ := op_at (ops := R75) (i := 11) (d := some 339) (p := .load 56 (.tmp 338)) (by kernel_rfl)
  obtain ⟨o12, ho12, hd12, hg12, hp12⟩ := op_at (ops := R75) (i := 12) (d := some 340) (p := .indexAddr 56 (.tmp 339) (.const (.int .i64 0))) (by kernel_rfl)
  obtain ⟨o13, ho13, hd13, hg13, hp13⟩ := op_at (ops := R75) (i := 13) (d := some 341) (p := .load 3 (.tmp 340)) (by kernel_rfl)
  obtain ⟨o14, ho14, hd14, hg14, hp14⟩ := op_at (ops := R75) (i := 14) (d := some 342) (p := .indexAddr 26 (.tmp 333) (.tmp 341)) (by kernel_rfl)
  obtain ⟨o15, ho15, hd15, hg15, hp15⟩ := op_at (ops := R75) (i := 15) (d := some 343) (p := .load 27 (.tmp 342)) (by kernel_rfl)
  obtain ⟨o16, ho16, hd16, hg16, hp16⟩ := op_at (ops := R75) (i := 16) (d := some 344) (p := .lookup 53 (.tmp 332) (.tmp 343) false) (by kernel_rfl)
  obtain ⟨o17, ho17, hd17, hg17, hp17⟩ := op_at (ops := R75) (i := 17) (d := some 345) (p := .field 90 (.tmp 344) 0) (by kernel_rfl)
  obtain ⟨o18, ho18, hd18, hg18, hp18⟩ := op_at (ops := R75) (i := 18) (d := some 346) (p := .buildSlice 72 1 #[(0, .tmp 345)]) (by kernel_rfl)
  obtain ⟨o19, ho19, hd19, hg19, hp19⟩ := op_at (ops := R75) (i := 19) (d := some 347) (p := .call { callee := .builtin .append, args := #[.tmp 328, .tmp 346], argTypes := #[72, 72] }) (by kernel_rfl)
  obtain ⟨o20, ho20, hd20, hg20, hp20⟩ := op_at (ops := R75) (i := 20) (d := some 13) (p := .assign (.tmp 347)) (by kernel_rfl)
  refine wp_region_noPanic ?_
  refine wp_region_K 20 (fun W => W.cell? ⟨lrb, 19, none⟩ = some (.map (some mb)) ∧ W.cell? ⟨gs, np * 3, none⟩ = some (.slice (some ⟨gl, 0, none⟩) ll lc) ∧ W.cell? ⟨gl, 0, none⟩ = some (vi f) ∧ W.cell? ⟨pb, f, none⟩ = some (pt (P f)) ∧ (Instr.lookup 53 (.map (some mb)) (pt (P f)) false).run Yba.prog W = .ok (.agg #[pt (pts np), vi (M.At f)]) W) (by kernel_rfl) ?_
  have hT : ∀ W DD, Holds w0 W DD → (∀ t, (∀ m, t ≠ .x m) → t ≠ .ptrs → DD t = D t) → (W.cell? ⟨lrb, 19, none⟩ = some (.map (some mb)) ∧ W.cell? ⟨gs, np * 3, none⟩ = some (.slice (some ⟨gl, 0, none⟩) ll lc) ∧ W.cell? ⟨gl, 0, none⟩ = some (vi f) ∧ W.cell? ⟨pb, f, none⟩ = some (pt (P f)) ∧ (Instr.lookup 53 (.map (some mb)) (pt (P f)) false).run Yba.prog W = .ok (.agg #[pt (pts np), vi (M.At f)]) W) := fun W DD hW hd => ⟨hW.cell ((hd _ (by simp) (by simp)).trans hlr) h19, hW.cell ((hd _ (by simp) (by simp)).trans hsts) hc, hW.cell ((hd _ (by simp) (by simp)).trans hml) hm0, hW.cell ((hd _ (by simp) (by simp)).trans hpool) (rowF_get hf), by
    have hk := (rd.congr (D' := DD) (fun t ht => hd t (usedR_x ht) (by rintro rfl; simp [usedR] at ht))).look hW hf false
    rw [hk, if_pos (by omega)]
    have e : (M.S f).toNat = np := by omega
    simp [stAt, e]⟩
  have hh := h.drew
  have hT0 := hT _ _ hh (fun _ _ _ => rfl)
  generalize w.drew = W at *
  rw [show R75.size = 21 by kernel_rfl]
  refine wpAnyK_any (v := .slice pa np pc) ho0 hd0 hg0 sel75 (by kernel_rfl) (by kernel_rfl) rfl (fun _ _ _ h => h) (fun _ => hT0) (ex_move hp0 (by simp only [ev_same, ev_other, put_size, hsz, e6, e8, e12, e13, ne_eq, Nat.reduceEqDiff, not_false_eq_true, Nat.reduceLT])) ?_
  refine wpAnyK_any (v := pt lrb) ho1 hd1 hg1 sel75 (by kernel_rfl) (by kernel_rfl) rfl (fun _ _ _ h => h) (fun _ => hT0) (ex_move hp1 (by simp only [ev_same, ev_other, put_size, hsz, e6, e8, e12, e13, ne_eq, Nat.reduceEqDiff, not_false_eq_true, Nat.reduceLT])) ?_
  refine wpAnyK_any (v := pt lrb) ho2 hd2 hg2 sel75 (by kernel_rfl) (by kernel_rfl) rfl (fun _ _ _ h => h) (fun _ => hT0) (ex_nil hp2 (by simp only [ev_same, ev_other, put_size, hsz, e6, e8, e12, e13, ne_eq, Nat.reduceEqDiff, not_false_eq_true, Nat.reduceLT])) ?_
  refine wpAnyK_any (v := .pointer (some ⟨lrb, 19, none⟩)) ho3 hd3 hg3 sel75 (by kernel_rfl) (by kernel_rfl) rfl (fun _ _ _ h => h) (fun _ => hT0) (ex_f70_17 (b := lrb) (f := 0) hp3 (by simp only [ev_same, ev_other, put_size, hsz, e6, e8, e12, e13, ne_eq, Nat.reduceEqDiff, not_false_eq_true, Nat.reduceLT])) ?_
  refine wpAnyK_held (v := .map (some mb)) ho4 hd4 hg4 sel75 (by kernel_rfl) (by kernel_rfl) rfl (by kernel_rfl) (by kernel_rfl) (fun _ _ _ h => h) hT0 (fun W' hx => ex_l53 (b := lrb) (f := 19) hp4 (by simp only [ev_same, ev_other, put_size, hsz, e6, e8, e12, e13, ne_eq, Nat.reduceEqDiff, not_false_eq_true, Nat.reduceLT]) hx.1) ?_
  refine wpAnyK_any (v := .slice (some ⟨pb, 0, none⟩) 6 6) ho5 hd5 hg5 sel75 (by kernel_rfl) (by kernel_rfl) rfl (fun _ _ _ h => h) (fun _ => hT0) (ex_move hp5 (by simp only [ev_same, ev_other, put_size, hsz, e6, e8, e12, e13, ne_eq, Nat.reduceEqDiff, not_false_eq_true, Nat.reduceLT])) ?_
  refine wpAnyK_any (v := .slice (some ⟨gs, 0, none⟩) ns cap) ho6 hd6 hg6 sel75 (by kernel_rfl) (by kernel_rfl) rfl (fun _ _ _ h => h) (fun _ => hT0) (ex_move hp6 (by simp only [ev_same, ev_other, put_size, hsz, e6, e8, e12, e13, ne_eq, Nat.reduceEqDiff, not_false_eq_true, Nat.reduceLT])) ?_
  refine wpAnyK_any (v := .slice pa np pc) ho7 hd7 hg7 sel75 (by kernel_rfl) (by kernel_rfl) rfl (fun _ _ _ h => h) (fun _ => hT0) (ex_move hp7 (by simp only [ev_same, ev_other, put_size, hsz, e6, e8, e12, e13, ne_eq, Nat.reduceEqDiff, not_false_eq_true, Nat.reduceLT])) ?_
  refine wpAnyK_any (v := vi np) ho8 hd8 hg8 sel75 (by kernel_rfl) (by kernel_rfl) rfl (fun _ _ _ h => h) (fun _ => hT0) (ex_len72 (z := pa) (n := np) (c := pc) hp8 (by simp only [ev_same, ev_other, put_size, hsz, e6, e8, e12, e13, ne_eq, Nat.reduceEqDiff, not_false_eq_true, Nat.reduceLT])) ?_
  refine wpAnyK_any (v := .pointer (some ⟨gs, np * 3, none⟩)) ho9 hd9 hg9 sel75 (by kernel_rfl) (by kernel_rfl) rfl (fun _ _ _ h => h) (fun _ => hT0) (ex_i71 (b := gs) (n := ns) (c := cap) (k := np) hp9 (by simp only [ev_same, ev_other, put_size, hsz, e6, e8, e12, e13, ne_eq, Nat.reduceEqDiff, not_false_eq_true, Nat.reduceLT]) (by simp only [ev_same, ev_other, put_size, hsz, e6, e8, e12, e13, ne_eq, Nat.reduceEqDiff, not_false_eq_true, Nat.reduceLT]) hlt) ?_
  refine wpAnyK_any (v := .pointer (some ⟨gs, np * 3, none⟩)) ho10 hd10 hg10 sel75 (by kernel_rfl) (by kernel_rfl) rfl (fun _ _ _ h => h) (fun _ => hT0) (ex_f76_0 (b := gs) (f := np * 3) hp10 (by simp only [ev_same, ev_other, put_size, hsz, e6, e8, e12, e13, ne_eq, Nat.reduceEqDiff, not_false_eq_true, Nat.reduceLT])) ?_
  refine wpAnyK_held (v := .slice (some ⟨gl, 0, none⟩) ll lc) ho11 hd11 hg11 sel75 (by kernel_rfl) (by kernel_rfl) rfl (by kernel_rfl) (by kernel_rfl) (fun _ _ _ h => h) hT0 (fun W' hx => ex_l56 hp11 (by simp only [ev_same, ev_other, put_size, hsz, e6, e8, e12, e13, ne_eq, Nat.reduceEqDiff, not_false_eq_true, Nat.reduceLT]) hx.2.1) ?_
  refine wpAnyK_any (v := .pointer (some ⟨gl, 0, none⟩)) ho12 hd12 hg12 sel75 (by kernel_rfl) (by kernel_rfl) rfl (fun _ _ _ h => h) (fun _ => hT0) (ex_i56 (b := gl) (n := ll) (c := lc) (k := 0) hp12 (by simp only [ev_same, ev_other, put_size, hsz, e6, e8, e12, e13, ne_eq, Nat.reduceEqDiff, not_false_eq_true, Nat.reduceLT]) rfl hll) ?_
  refine wpAnyK_held (v := vi f) ho13 hd13 hg13 sel75 (by kernel_rfl) (by kernel_rfl) rfl (by kernel_rfl) (by kernel_rfl) (fun _ _ _ h => h) hT0 (fun W' hx => ex_l3 hp13 (by simp only [ev_same, ev_other, put_size, hsz, e6, e8, e12, e13, ne_eq, Nat.reduceEqDiff, not_false_eq_true, Nat.reduceLT]) hx.2.2.1) ?_
  refine wpAnyK_any (v := .pointer (some ⟨pb, f, none⟩)) ho14 hd14 hg14 sel75 (by kernel_rfl) (by kernel_rfl) rfl (fun _ _ _ h => h) (fun _ => hT0) (ex_i26 (b := pb) (n := 6) (c := 6) (k := f) hp14 (by simp only [ev_same, ev_other, put_size, hsz, e6, e8, e12, e13, ne_eq, Nat.reduceEqDiff, not_false_eq_true, Nat.reduceLT]) (by simp only [ev_same, ev_other, put_size, hsz, e6, e8, e12, e13, ne_eq, Nat.reduceEqDiff, not_false_eq_true, Nat.reduceLT]) (by omega)) ?_
  refine wpAnyK_held (v := pt (P f)) ho15 hd15 hg15 sel75 (by kernel_rfl) (by kernel_rfl) rfl (by kernel_rfl) (by kernel_rfl) (fun _ _ _ h => h) hT0 (fun W' hx => ex_l27 hp15 (by simp only [ev_same, ev_other, put_size, hsz, e6, e8, e12, e13, ne_eq, Nat.reduceEqDiff, not_false_eq_true, Nat.reduceLT]) hx.2.2.2.1) ?_
  refine wpAnyK_held (v := .agg #[pt (pts np), vi (M.At f)]) ho16 hd16 hg16 sel75 (by kernel_rfl) (by kernel_rfl) rfl (by kernel_rfl) (by kernel_rfl) (fun _ _ _ h => h) hT0 (fun W' hx => ex_look hp16 (by simp only [ev_same, ev_other, put_size, hsz, e6, e8, e12, e13, ne_eq, Nat.reduceEqDiff, not_false_eq_true, Nat.reduceLT]) (by simp only [ev_same, ev_other, put_size, hsz, e6, e8, e12, e13, ne_eq, Nat.reduceEqDiff, not_false_eq_true, Nat.reduceLT]) hx.2.2.2.2) ?_
  refine wpAnyK_any (v := pt (pts np)) ho17 hd17 hg17 sel75 (by kernel_rfl) (by kernel_rfl) rfl (fun _ _ _ h => h) (fun _ => hT0) (ex_fld90 (b := pts np) (p := M.At f) hp17 (by simp only [ev_same, ev_other, put_size, hsz, e6, e8, e12, e13, ne_eq, Nat.reduceEqDiff, not_false_eq_true, Nat.reduceLT])) ?_
  have hb := hh.new (.x 2) (row [pt (pts np)] 88)
  refine wpAnyK_1 (by kernel_rfl) (OneK.run ho18 hd18 hg18 (ex_bs72 (b := pts np) hp18 (by simp only [ev_same, ev_other, put_size, hsz, e6, e8, e12, e13, ne_eq, Nat.reduceEqDiff, not_false_eq_true, Nat.reduceLT]) _) (fun _ => hT _ _ hb (fun t ht _ => upd_other (ht 2))) ?_)
  obtain ⟨g, k, c, w', o, hr, _, r2, r3⟩ := run_append_sl (ty := o19.type) (c := 1) elem72 hb (hptr.other (by simp) _ _) (hb.row (upd_same _ _ _ _)) rfl (by simp [Value.oneCell']) hl
  have hT1 := hT _ _ r2 (fun t ht h1 => by rw [upd_other h1, upd_other (ht 2)])
  refine wpAnyK_1 (by kernel_rfl) (OneK.run ho19 hd19 hg19 (ex_append hp19 (by simp only [ev_same, ev_other, put_size, hsz, e6, e8, e12, e13, ne_eq, Nat.reduceEqDiff, not_false_eq_true, Nat.reduceLT]) (by simp only [ev_same, ev_other, put_size, hsz, e6, e8, e12, e13, ne_eq, Nat.reduceEqDiff, not_false_eq_true, Nat.reduceLT]) hr) (fun _ => hT1) ?_)
  refine wpAnyK_1 (by kernel_rfl) (OneK.run ho20 hd20 hg20 (ex_asg (v := .slice (some ⟨g, 0, none⟩) k c) hp20 (by simp only [ev_same, ev_other, put_size, hsz, e6, e8, e12, e13, ne_eq, Nat.reduceEqDiff, not_false_eq_true, Nat.reduceLT]) _) (fun e => absurd e (by decide)) ?_)
  refine wpAnyK_done (by kernel_rfl) ?_ _
  refine NoPanic.normal ?_
  obtain ⟨us, hus⟩ := Like.puts (((((((((((((((((((((Like.refl a 328 347).put (d := 328) (by decide) (by decide) (.slice pa np pc)).put (d := 329) (by decide) (by decide) (pt lrb)).put (d := 330) (by decide) (by decide) (pt lrb)).put (d := 331) (by decide) (by decide) (.pointer (some ⟨lrb, 19, none⟩))).put (d := 332) (by decide) (by decide) (.map (some mb))).put (d := 333) (by decide) (by decide) (.slice (some ⟨pb, 0, none⟩) 6 6)).put (d := 334) (by decide) (by decide) (.slice (some ⟨gs, 0, none⟩) ns cap)).put (d := 335) (by decide) (by decide) (.slice pa np pc)).put (d := 336) (by decide) (by decide) (vi np)).put (d := 337) (by decide) (by decide) (.pointer (some ⟨gs, np * 3, none⟩))).put (d := 338) (by decide) (by decide) (.pointer (some ⟨gs, np * 3, none⟩))).put (d := 339) (by decide) (by decide) (.slice (some ⟨gl, 0, none⟩) ll lc)).put (d := 340) (by decide) (by decide) (.pointer (some ⟨gl, 0, none⟩))).put (d := 341) (by decide) (by decide) (vi f)).put (d := 342) (by decide) (by decide) (.pointer (some ⟨pb, f, none⟩))).put (d := 343) (by decide) (by decide) (pt (P f))).put (d := 344) (by decide) (by decide) (.agg #[pt (pts np), vi (M.At f)])).put (d := 345) (by decide) (by decide) (pt (pts np))).put (d := 346) (by decide) (by decide) (_)).put (d := 347) (by decide) (by decide) (_)) ((List.range 20).map (· + 328)) (fun n h1 h2 => by simp only [List.mem_map, List.mem_range]; exact ⟨n - 328, by omega, by omega⟩)
  have hfin := hQ us _ _ _ _ _ r2 r3 (fun t ht h1 => by rw [upd_other h1, upd_other (ht 2)])
  rw [← hus] at hfin
  exact hfin
end Go.Proofs.Ybulkeaca.CW
