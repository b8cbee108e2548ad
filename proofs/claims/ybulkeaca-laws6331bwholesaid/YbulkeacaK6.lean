import Derived.Test.YbulkeacaK5
namespace Go.Proofs.Ybulkeaca.CW
open Go.RowKit Go.Proofs.Ybulkeaca.Kit
set_option linter.unusedSimpArgs false
section
variable {ρ : Operand → Value} {o : Oper} {w : World}
theorem ex_look2 {x y : Operand} {u v r : Value} (h : o.op = .lookup 53 x y true) (hx : ρ x = u) (hy : ρ y = v) (hr : (Instr.lookup 53 u v true).run Yba.prog w = .ok r w) : (execOp ρ o).run Yba.prog w = .ok (.value r) w := by
  unfold execOp; rw [h]; simp only [hx, hy, Sem.run_bind, hr, Result.andThen_ok, Sem.run_pure]
theorem ex_ext0 {x : Operand} {u v : Value} (h : o.op = .extract x 0) (hx : ρ x = .tuple #[u, v]) (w : World) : (execOp ρ o).run Yba.prog w = .ok (.value u) w := by
  unfold execOp; rw [h]; simp [go_sem, hx]
theorem ex_ext1 {x : Operand} {u v : Value} (h : o.op = .extract x 1) (hx : ρ x = .tuple #[u, v]) (w : World) : (execOp ρ o).run Yba.prog w = .ok (.value v) w := by
  unfold execOp; rw [h]; simp [go_sem, hx]
theorem ex_al90 (h : o.op = .alloc 90) (w : World) : (execOp ρ o).run Yba.prog w = .ok (.value (pt w.heap.size)) (w.alloc (row [.pointer none, vi 0] 90)) := by
  unfold execOp; rw [h]; simp [go_sem]
theorem ex_s90 {x y : Operand} {b : Nat} {z : Option Addr} {p : Int} {u v : Value} (h : o.op = .store 90 x y) (hx : ρ x = pt b) (hy : ρ y = .agg #[.pointer z, vi p]) (hu : w.cell? ⟨b, 0, none⟩ = some u) (hv : w.cell? ⟨b, 1, none⟩ = some v) (hf : ∀ i, w.frozen? ⟨b, i, none⟩ = false) : (execOp ρ o).run Yba.prog w = .ok .skip ((w.setCell ⟨b, 0, none⟩ (.pointer z)).setCell ⟨b, 1, none⟩ (vi p)) := by
  unfold execOp; rw [h]; simp [go_sem, hx, hy, hu, hv, hf]
end
noncomputable def R105 : Array Oper := opsAt Yba.f3 105
theorem sel105 : Region.noSelect R105 = true := by kernel_rfl

set_option maxRecDepth 100000 in
set_option maxHeartbeats 4000000 in
theorem region105 {Q : Exit → Act → World → Prop} {a : Act} {w0 w : World} {D : Desc} {M : Mod} {P pts : Nat → Nat} {mb lrb pb f : Nat} {z : Option Addr} {p : Int} {ok : Bool} {cs : List Value} (hsz : a.tmps.size = 761) (e6 : a.eval (.tmp 6) = .slice (some ⟨pb, 0, none⟩) 6 6) (e8 : a.eval (.tmp 8) = pt lrb) (e37 : a.eval (.tmp 37) = vi f) (hf : f < 6)
    (h : Holds w0 w D) (rd : RealD D M P pts mb) (hlr : D .lr = some (lrb, row cs 70)) (h19 : cs[19]? = some (.map (some mb))) (hpool : D .pool = some (pb, row (rowF 6 fun f => pt (P f)) 27))
    (hval : (if 0 ≤ M.S f then (.tuple #[stAt M pts f, .bool true] : Value) else .tuple #[.agg #[.pointer none, vi 0], .bool false]) = .tuple #[.agg #[.pointer z, vi p], .bool ok])
    (hQ : ∀ us w' ab, Holds w0 w' (upd D (.x 1) ab (row [.pointer z, vi p] 90)) → Q .normal (((puts a us ((List.range 12).map (· + 543))).put (some 38) (pt ab)).put (some 39) (.bool ok)) w') :
    (Code.region 105 R105 true).wp Yba.prog Q a w := by
  obtain ⟨o0, ho0, hd0, hg0, hp0⟩ := op_at (ops := R105) (i := 0) (d := some 544) (p := .move (.tmp 8)) (by kernel_rfl)
  obtain ⟨o1, ho1, hd1, hg1, hp1⟩ := op_at (ops := R105) (i := 1) (d := some 545) (p := .nilCheck (.tmp 544)) (by kernel_rfl)
  obtain ⟨o2, ho2, hd2, hg2, hp2⟩ := op_at (ops := R105) (i := 2) (d := some 546) (p := .fieldAddr 70 (.tmp 545) 17) (by kernel_rfl)
  obtain ⟨o3, ho3, hd3, hg3, hp3⟩ := op_at (ops := R105) (i := 3) (d := some 547) (p := .load 53 (.tmp 546)) (by kernel_rfl)
  obtain ⟨o4, ho4, hd4, hg4, hp4⟩ := op_at (ops := R105) (i := 4) (d := some 548) (p := .move (.tmp 6)) (by kernel_rfl)
  obtain ⟨o5, ho5, hd5, hg5, hp5⟩ := op_at (ops := R105) (i := 5) (d := some 549) (p := .move (.tmp 37)) (by kernel_rfl)
  obtain ⟨o6, ho6, hd6, hg6, hp6⟩ := op_at (ops := R105) (i := 6) (d := some 550) (p := .indexAddr 26 (.tmp 548) (.tmp 549)) (by kernel_rfl)
  obtain ⟨o7, ho7, hd7, hg7, hp7⟩ := op_at (ops := R105) (i := 7) (d := some 551) (p := .load 27 (.tmp 550)) (by kernel_rfl)
  obtain ⟨o8, ho8, hd8, hg8, hp8⟩ := op_at (ops := R105) (i := 8) (d := some 552) (p := .lookup 53 (.tmp 547) (.tmp 551) true) (by kernel_rfl)
  obtain ⟨o9, ho9, hd9, hg9, hp9⟩ := op_at (ops := R105) (i := 9) (d := some 543) (p := .move (.tmp 552)) (by kernel_rfl)
  obtain ⟨o10, ho10, hd10, hg10, hp10⟩ := op_at (ops := R105) (i := 10) (d := some 553) (p := .extract (.tmp 543) 0) (by kernel_rfl)
  obtain ⟨o11, ho11, hd11, hg11, hp11⟩ := op_at (ops := R105) (i := 11) (d := some 554) (p := .extract (.tmp 543) 1) (by kernel_rfl)
  obtain ⟨o12, ho12, hd12, hg12, hp12⟩ := op_at (ops := R105) (i := 12) (d := some 38) (p := .alloc 90) (by kernel_rfl)
  obtain ⟨o13, ho13, hd13, hg13, hp13⟩ := op_at (ops := R105) (i := 13) (d := none) (p := .store 90 (.tmp 38) (.tmp 553)) (by kernel_rfl)
  obtain ⟨o14, ho14, hd14, hg14, hp14⟩ := op_at (ops := R105) (i := 14) (d := some 39) (p := .assign (.tmp 554)) (by kernel_rfl)
  refine wp_region_noPanic ?_
  refine wp_region_K 13 (fun W => W.cell? ⟨lrb, 19, none⟩ = some (.map (some mb)) ∧ W.cell? ⟨pb, f, none⟩ = some (pt (P f)) ∧ (Instr.lookup 53 (.map (some mb)) (pt (P f)) true).run Yba.prog W = .ok (.tuple #[.agg #[.pointer z, vi p], .bool ok]) W) (by kernel_rfl) ?_
  have hT : ∀ W DD, Holds w0 W DD → (∀ t, (∀ m, t ≠ .x m) → DD t = D t) → (W.cell? ⟨lrb, 19, none⟩ = some (.map (some mb)) ∧ W.cell? ⟨pb, f, none⟩ = some (pt (P f)) ∧ (Instr.lookup 53 (.map (some mb)) (pt (P f)) true).run Yba.prog W = .ok (.tuple #[.agg #[.pointer z, vi p], .bool ok]) W) := fun W DD hW hd => ⟨hW.cell ((hd _ (by simp)).trans hlr) h19, hW.cell ((hd _ (by simp)).trans hpool) (rowF_get hf), by
    have hk := (rd.congr (D' := DD) (fun t ht => hd t (usedR_x ht))).look hW hf true
    simp only [if_true] at hk
    rw [hk, hval]⟩
  have hh := h.drew
  have hT0 := hT _ _ hh (fun _ _ => rfl)
  generalize w.drew = W at *
  rw [show R105.size = 15 by kernel_rfl]
  refine wpAnyK_any (v := pt lrb) ho0 hd0 hg0 sel105 (by kernel_rfl) (by kernel_rfl) rfl (fun _ _ _ h => h) (fun _ => hT0) (ex_move hp0 (by simp only [ev_same, ev_other, put_size, hsz, e6, e8, e37, ne_eq, Nat.reduceEqDiff, not_false_eq_true, Nat.reduceLT])) ?_
  refine wpAnyK_any (v := pt lrb) ho1 hd1 hg1 sel105 (by kernel_rfl) (by kernel_rfl) rfl (fun _ _ _ h => h) (fun _ => hT0) (ex_nil hp1 (by simp only [ev_same, ev_other, put_size, hsz, e6, e8, e37, ne_eq, Nat.reduceEqDiff, not_false_eq_true, Nat.reduceLT])) ?_
  refine wpAnyK_any (v := .pointer (some ⟨lrb, 19, none⟩)) ho2 hd2 hg2 sel105 (by kernel_rfl) (by kernel_rfl) rfl (fun _ _ _ h => h) (fun _ => hT0) (ex_f70_17 (b := lrb) (f := 0) hp2 (by simp only [ev_same, ev_other, put_size, hsz, e6, e8, e37, ne_eq, Nat.reduceEqDiff, not_false_eq_true, Nat.reduceLT])) ?_
  refine wpAnyK_held (v := .map (some mb)) ho3 hd3 hg3 sel105 (by kernel_rfl) (by kernel_rfl) rfl (by kernel_rfl) (by kernel_rfl) (fun _ _ _ h => h) hT0 (fun W' hx => ex_l53 (b := lrb) (f := 19) hp3 (by simp only [ev_same, ev_other, put_size, hsz, e6, e8, e37, ne_eq, Nat.reduceEqDiff, not_false_eq_true, Nat.reduceLT]) hx.1) ?_
  refine wpAnyK_any (v := .slice (some ⟨pb, 0, none⟩) 6 6) ho4 hd4 hg4 sel105 (by kernel_rfl) (by kernel_rfl) rfl (fun _ _ _ h => h) (fun _ => hT0) (ex_move hp4 (by simp only [ev_same, ev_other, put_size, hsz, e6, e8, e37, ne_eq, Nat.reduceEqDiff, not_false_eq_true, Nat.reduceLT])) ?_
  refine wpAnyK_any (v := vi f) ho5 hd5 hg5 sel105 (by kernel_rfl) (by kernel_rfl) rfl (fun _ _ _ h => h) (fun _ => hT0) (ex_move hp5 (by simp only [ev_same, ev_other, put_size, hsz, e6, e8, e37, ne_eq, Nat.reduceEqDiff, not_false_eq_true, Nat.reduceLT])) ?_
  refine wpAnyK_any (v := .pointer (some ⟨pb, f, none⟩)) ho6 hd6 hg6 sel105 (by kernel_rfl) (by kernel_rfl) rfl (fun _ _ _ h => h) (fun _ => hT0) (ex_i26 (b := pb) (n := 6) (c := 6) (k := f) hp6 (by simp only [ev_same, ev_other, put_size, hsz, e6, e8, e37, ne_eq, Nat.reduceEqDiff, not_false_eq_true, Nat.reduceLT]) (by simp only [ev_same, ev_other, put_size, hsz, e6, e8, e37, ne_eq, Nat.reduceEqDiff, not_false_eq_true, Nat.reduceLT]) (by omega)) ?_
  refine wpAnyK_held (v := pt (P f)) ho7 hd7 hg7 sel105 (by kernel_rfl) (by kernel_rfl) rfl (by kernel_rfl) (by kernel_rfl) (fun _ _ _ h => h) hT0 (fun W' hx => ex_l27 hp7 (by simp only [ev_same, ev_other, put_size, hsz, e6, e8, e37, ne_eq, Nat.reduceEqDiff, not_false_eq_true, Nat.reduceLT]) hx.2.1) ?_
  refine wpAnyK_held (v := .tuple #[.agg #[.pointer z, vi p], .bool ok]) ho8 hd8 hg8 sel105 (by kernel_rfl) (by kernel_rfl) rfl (by kernel_rfl) (by kernel_rfl) (fun _ _ _ h => h) hT0 (fun W' hx => ex_look2 hp8 (by simp only [ev_same, ev_other, put_size, hsz, e6, e8, e37, ne_eq, Nat.reduceEqDiff, not_false_eq_true, Nat.reduceLT]) (by simp only [ev_same, ev_other, put_size, hsz, e6, e8, e37, ne_eq, Nat.reduceEqDiff, not_false_eq_true, Nat.reduceLT]) hx.2.2) ?_
  refine wpAnyK_any (v := .tuple #[.agg #[.pointer z, vi p], .bool ok]) ho9 hd9 hg9 sel105 (by kernel_rfl) (by kernel_rfl) rfl (fun _ _ _ h => h) (fun _ => hT0) (ex_move hp9 (by simp only [ev_same, ev_other, put_size, hsz, e6, e8, e37, ne_eq, Nat.reduceEqDiff, not_false_eq_true, Nat.reduceLT])) ?_
  refine wpAnyK_any (v := .agg #[.pointer z, vi p]) ho10 hd10 hg10 sel105 (by kernel_rfl) (by kernel_rfl) rfl (fun _ _ _ h => h) (fun _ => hT0) (ex_ext0 (u := .agg #[.pointer z, vi p]) (v := .bool ok) hp10 (by simp only [ev_same, ev_other, put_size, hsz, e6, e8, e37, ne_eq, Nat.reduceEqDiff, not_false_eq_true, Nat.reduceLT])) ?_
  refine wpAnyK_any (v := .bool ok) ho11 hd11 hg11 sel105 (by kernel_rfl) (by kernel_rfl) rfl (fun _ _ _ h => h) (fun _ => hT0) (ex_ext1 (u := .agg #[.pointer z, vi p]) (v := .bool ok) hp11 (by simp only [ev_same, ev_other, put_size, hsz, e6, e8, e37, ne_eq, Nat.reduceEqDiff, not_false_eq_true, Nat.reduceLT])) ?_
  have hb := hh.new (.x 1) (row [.pointer none, vi 0] 90)
  refine wpAnyK_1 (by kernel_rfl) (OneK.run ho12 hd12 hg12 (ex_al90 hp12 _) (fun _ => hT _ _ hb (fun t ht => upd_other (ht 1))) ?_)
  have q1 := (hb.set (upd_same _ _ _ _) 0 (.pointer z)).set (upd_same _ _ _ _) 1 (vi p)
  refine wpAnyK_1 (by kernel_rfl) (OneK.skip ho13 hd13 hg13 (ex_s90 (b := W.heap.size) (z := z) (p := p) hp13 (by simp only [ev_same, ev_other, put_size, hsz, e6, e8, e37, ne_eq, Nat.reduceEqDiff, not_false_eq_true, Nat.reduceLT]) (by simp only [ev_same, ev_other, put_size, hsz, e6, e8, e37, ne_eq, Nat.reduceEqDiff, not_false_eq_true, Nat.reduceLT]) (hb.cell (upd_same _ _ _ _) (i := 0) rfl) (hb.cell (upd_same _ _ _ _) (i := 1) rfl) (fun i => hb.free (upd_same _ _ _ _) i)) (fun e => absurd e (by decide)) ?_)
  refine wpAnyK_1 (by kernel_rfl) (OneK.run ho14 hd14 hg14 (ex_asg (v := .bool ok) hp14 (by simp only [ev_same, ev_other, put_size, hsz, e6, e8, e37, ne_eq, Nat.reduceEqDiff, not_false_eq_true, Nat.reduceLT]) _) (fun e => absurd e (by decide)) ?_)
  refine wpAnyK_done (by kernel_rfl) ?_ _
  refine NoPanic.normal ?_
  obtain ⟨us, hus⟩ := Like.puts (((((((((((((Like.refl a 543 554).put (d := 544) (by decide) (by decide) (pt lrb)).put (d := 545) (by decide) (by decide) (pt lrb)).put (d := 546) (by decide) (by decide) (.pointer (some ⟨lrb, 19, none⟩))).put (d := 547) (by decide) (by decide) (.map (some mb))).put (d := 548) (by decide) (by decide) (.slice (some ⟨pb, 0, none⟩) 6 6)).put (d := 549) (by decide) (by decide) (vi f)).put (d := 550) (by decide) (by decide) (.pointer (some ⟨pb, f, none⟩))).put (d := 551) (by decide) (by decide) (pt (P f))).put (d := 552) (by decide) (by decide) (.tuple #[.agg #[.pointer z, vi p], .bool ok])).put (d := 543) (by decide) (by decide) (.tuple #[.agg #[.pointer z, vi p], .bool ok])).put (d := 553) (by decide) (by decide) (.agg #[.pointer z, vi p])).put (d := 554) (by decide) (by decide) (.bool ok)) ((List.range 12).map (· + 543)) (fun n h1 h2 => by simp only [List.mem_map, List.mem_range]; exact ⟨n - 543, by omega, by omega⟩)
  have e3 : upd (upd (upd D (.x 1) W.heap.size (row [.pointer none, vi 0] 90)) (.x 1) W.heap.size (row ([.pointer none, vi 0].set 0 (.pointer z)) 90)) (.x 1) W.heap.size (row (([.pointer none, vi 0].set 0 (.pointer z)).set 1 (vi p)) 90) = upd D (.x 1) W.heap.size (row [.pointer z, vi p] 90) := by
    funext t; by_cases e : t = .x 1
    · subst e; rw [upd_same, upd_same]; rfl
    · rw [upd_other e, upd_other e, upd_other e, upd_other e]
  rw [e3] at q1
  have hfin := hQ us _ _ q1
  rw [← hus] at hfin
  exact hfin
end Go.Proofs.Ybulkeaca.CW
