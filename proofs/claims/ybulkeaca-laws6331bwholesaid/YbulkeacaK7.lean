import Derived.Test.YbulkeacaK6
namespace Go.Proofs.Ybulkeaca.CW
open Go.RowKit Go.Proofs.Ybulkeaca.Kit
set_option linter.unusedSimpArgs false
section
variable {ρ : Operand → Value} {o : Oper} {w : World}
theorem ex_f76_1 {x : Operand} {b f : Nat} (h : o.op = .fieldAddr 76 x 1) (hx : ρ x = .pointer (some ⟨b, f, none⟩)) (w : World) : (execOp ρ o).run Yba.prog w = .ok (.value (.pointer (some ⟨b, f + 1, none⟩))) w := by
  unfold execOp; rw [h]; simp [go_sem, hx]
theorem ex_f76_2 {x : Operand} {b f : Nat} (h : o.op = .fieldAddr 76 x 2) (hx : ρ x = .pointer (some ⟨b, f, none⟩)) (w : World) : (execOp ρ o).run Yba.prog w = .ok (.value (.pointer (some ⟨b, f + 2, none⟩))) w := by
  unfold execOp; rw [h]; simp [go_sem, hx]
theorem ex_f25_2 {x : Operand} {b f : Nat} (h : o.op = .fieldAddr 25 x 2) (hx : ρ x = .pointer (some ⟨b, f, none⟩)) (w : World) : (execOp ρ o).run Yba.prog w = .ok (.value (.pointer (some ⟨b, f + 2, none⟩))) w := by
  unfold execOp; rw [h]; simp [go_sem, hx]
theorem ex_f25_3 {x : Operand} {b f : Nat} (h : o.op = .fieldAddr 25 x 3) (hx : ρ x = .pointer (some ⟨b, f, none⟩)) (w : World) : (execOp ρ o).run Yba.prog w = .ok (.value (.pointer (some ⟨b, f + 3, none⟩))) w := by
  unfold execOp; rw [h]; simp [go_sem, hx]
theorem ex_f90_0 {x : Operand} {b f : Nat} (h : o.op = .fieldAddr 90 x 0) (hx : ρ x = .pointer (some ⟨b, f, none⟩)) (w : World) : (execOp ρ o).run Yba.prog w = .ok (.value (.pointer (some ⟨b, f + 0, none⟩))) w := by
  unfold execOp; rw [h]; simp [go_sem, hx]
theorem ex_f90_1 {x : Operand} {b f : Nat} (h : o.op = .fieldAddr 90 x 1) (hx : ρ x = .pointer (some ⟨b, f, none⟩)) (w : World) : (execOp ρ o).run Yba.prog w = .ok (.value (.pointer (some ⟨b, f + 1, none⟩))) w := by
  unfold execOp; rw [h]; simp [go_sem, hx]
theorem ex_l21 {x : Operand} {b f : Nat} {v : Value} (h : o.op = .load 21 x) (hx : ρ x = .pointer (some ⟨b, f, none⟩)) (hv : w.cell? ⟨b, f, none⟩ = some v) : (execOp ρ o).run Yba.prog w = .ok (.value v) w := by
  unfold execOp; rw [h]; simp [go_sem, hx, hv]
theorem ex_l88 {x : Operand} {b f : Nat} {v : Value} (h : o.op = .load 88 x) (hx : ρ x = .pointer (some ⟨b, f, none⟩)) (hv : w.cell? ⟨b, f, none⟩ = some v) : (execOp ρ o).run Yba.prog w = .ok (.value v) w := by
  unfold execOp; rw [h]; simp [go_sem, hx, hv]
theorem ex_conv {x : Operand} {r : Int} (h : o.op = .convert 21 3 x) (hx : ρ x = .int .i32 r) (h1 : -2147483648 ≤ r) (h2 : r ≤ 2147483647) (w : World) : (execOp ρ o).run Yba.prog w = .ok (.value (vi r)) w := by
  unfold execOp; rw [h]; simp [go_sem, hx]
  rw [IntKind.wrap_i64]; omega
theorem ex_s3 {x y : Operand} {b f : Nat} {p : Int} {u : Value} (h : o.op = .store 3 x y) (hx : ρ x = .pointer (some ⟨b, f, none⟩)) (hy : ρ y = vi p) (hu : w.cell? ⟨b, f, none⟩ = some u) (hfz : w.frozen? ⟨b, f, none⟩ = false) : (execOp ρ o).run Yba.prog w = .ok .skip (w.setCell ⟨b, f, none⟩ (vi p)) := by
  unfold execOp; rw [h]; simp [go_sem, hx, hy, hu, hfz]
theorem ex_s78 {x y : Operand} {b f : Nat} {s : ByteArray} {p : Int} {u v : Value} (h : o.op = .store 78 x y) (hx : ρ x = .pointer (some ⟨b, f, none⟩)) (hy : ρ y = .agg #[.string s, vi p]) (hu : w.cell? ⟨b, f, none⟩ = some u) (hv : w.cell? ⟨b, f + 1, none⟩ = some v) (hfz : ∀ i, w.frozen? ⟨b, i, none⟩ = false) : (execOp ρ o).run Yba.prog w = .ok .skip ((w.setCell ⟨b, f, none⟩ (.string s)).setCell ⟨b, f + 1, none⟩ (vi p)) := by
  unfold execOp; rw [h]; simp [go_sem, hx, hy, hu, hv, hfz]
end
noncomputable def R132 : Array Oper := opsAt Yba.f3 132
theorem sel132 : Region.noSelect R132 = true := by kernel_rfl
set_option maxRecDepth 100000 in
set_option maxHeartbeats 4000000 in
theorem region132 {Q : Exit → Act → World → Prop} {a : Act} {w : World} {gs ns cap s bA f sb gr ln rc k : Nat} {r : Int} {u : Value} (hsz : a.tmps.size = 761) (e12 : a.eval (.tmp 12) = .slice (some ⟨gs, 0, none⟩) ns cap) (e45 : a.eval (.tmp 45) = vi s) (e10 : a.eval (.tmp 10) = .slice (some ⟨bA, 0, none⟩) 6 6) (e44 : a.eval (.tmp 44) = vi f) (e15 : a.eval (.tmp 15) = pt sb) (c0 : w.cell? ⟨gs, s * 3 + 2, none⟩ = some (.slice (some ⟨gr, 0, none⟩) ln rc)) (c1 : w.cell? ⟨bA, f, none⟩ = some (vi k)) (c2 : w.cell? ⟨sb, 2, none⟩ = some (.int .i32 r)) (hs : (s : Int) < ns) (hf : (f : Int) < (6 : Nat)) (hk : (k : Int) < ln) (r1 : -2147483648 ≤ r) (r2 : r ≤ 2147483647) (hu : w.cell? ⟨gr, k, none⟩ = some u) (hz : w.frozen? ⟨gr, k, none⟩ = false)
    (hQ : ∀ us, Q .normal (puts a us ((List.range 13).map (· + 707))) (w.drew.setCell ⟨gr, k, none⟩ (vi r))) :
    (Code.region 132 R132 true).wp Yba.prog Q a w := by
  obtain ⟨o0, ho0, hd0, hg0, hp0⟩ := op_at (ops := R132) (i := 0) (d := some 707) (p := .move (.tmp 12)) (by kernel_rfl)
  obtain ⟨o1, ho1, hd1, hg1, hp1⟩ := op_at (ops := R132) (i := 1) (d := some 708) (p := .move (.tmp 45)) (by kernel_rfl)
  obtain ⟨o2, ho2, hd2, hg2, hp2⟩ := op_at (ops := R132) (i := 2) (d := some 709) (p := .indexAddr 71 (.tmp 707) (.tmp 708)) (by kernel_rfl)
  obtain ⟨o3, ho3, hd3, hg3, hp3⟩ := op_at (ops := R132) (i := 3) (d := some 710) (p := .fieldAddr 76 (.tmp 709) 2) (by kernel_rfl)
  obtain ⟨o4, ho4, hd4, hg4, hp4⟩ := op_at (ops := R132) (i := 4) (d := some 711) (p := .load 56 (.tmp 710)) (by kernel_rfl)
  obtain ⟨o5, ho5, hd5, hg5, hp5⟩ := op_at (ops := R132) (i := 5) (d := some 712) (p := .move (.tmp 10)) (by kernel_rfl)
  obtain ⟨o6, ho6, hd6, hg6, hp6⟩ := op_at (ops := R132) (i := 6) (d := some 713) (p := .move (.tmp 44)) (by kernel_rfl)
  obtain ⟨o7, ho7, hd7, hg7, hp7⟩ := op_at (ops := R132) (i := 7) (d := some 714) (p := .indexAddr 56 (.tmp 712) (.tmp 713)) (by kernel_rfl)
  obtain ⟨o8, ho8, hd8, hg8, hp8⟩ := op_at (ops := R132) (i := 8) (d := some 715) (p := .load 3 (.tmp 714)) (by kernel_rfl)
  obtain ⟨o9, ho9, hd9, hg9, hp9⟩ := op_at (ops := R132) (i := 9) (d := some 716) (p := .fieldAddr 25 (.tmp 15) 2) (by kernel_rfl)
  obtain ⟨o10, ho10, hd10, hg10, hp10⟩ := op_at (ops := R132) (i := 10) (d := some 717) (p := .load 21 (.tmp 716)) (by kernel_rfl)
  obtain ⟨o11, ho11, hd11, hg11, hp11⟩ := op_at (ops := R132) (i := 11) (d := some 718) (p := .convert 21 3 (.tmp 717)) (by kernel_rfl)
  obtain ⟨o12, ho12, hd12, hg12, hp12⟩ := op_at (ops := R132) (i := 12) (d := some 719) (p := .indexAddr 56 (.tmp 711) (.tmp 715)) (by kernel_rfl)
  obtain ⟨o13, ho13, hd13, hg13, hp13⟩ := op_at (ops := R132) (i := 13) (d := none) (p := .store 3 (.tmp 719) (.tmp 718)) (by kernel_rfl)
  refine wp_region_noPanic ?_
  refine wp_region_K 13 (fun W => W.cell? ⟨gs, s * 3 + 2, none⟩ = some (.slice (some ⟨gr, 0, none⟩) ln rc) ∧ W.cell? ⟨bA, f, none⟩ = some (vi k) ∧ W.cell? ⟨sb, 2, none⟩ = some (.int .i32 r)) (by kernel_rfl) ?_
  have hT0 : w.drew.cell? ⟨gs, s * 3 + 2, none⟩ = some (.slice (some ⟨gr, 0, none⟩) ln rc) ∧ w.drew.cell? ⟨bA, f, none⟩ = some (vi k) ∧ w.drew.cell? ⟨sb, 2, none⟩ = some (.int .i32 r) := ⟨c0, c1, c2⟩
  rw [show R132.size = 14 by kernel_rfl]
  refine wpAnyK_any (v := .slice (some ⟨gs, 0, none⟩) ns cap) ho0 hd0 hg0 sel132 (by kernel_rfl) (by kernel_rfl) rfl (fun _ _ _ h => h) (fun _ => hT0) (ex_move hp0 (by simp only [ev_same, ev_other, put_size, hsz, e12, e45, e10, e44, e15, ne_eq, Nat.reduceEqDiff, not_false_eq_true, Nat.reduceLT])) ?_
  refine wpAnyK_any (v := vi s) ho1 hd1 hg1 sel132 (by kernel_rfl) (by kernel_rfl) rfl (fun _ _ _ h => h) (fun _ => hT0) (ex_move hp1 (by simp only [ev_same, ev_other, put_size, hsz, e12, e45, e10, e44, e15, ne_eq, Nat.reduceEqDiff, not_false_eq_true, Nat.reduceLT])) ?_
  refine wpAnyK_any (v := .pointer (some ⟨gs, s * 3, none⟩)) ho2 hd2 hg2 sel132 (by kernel_rfl) (by kernel_rfl) rfl (fun _ _ _ h => h) (fun _ => hT0) (ex_i71 (b := gs) (n := ns) (c := cap) (k := s) hp2 (by simp only [ev_same, ev_other, put_size, hsz, e12, e45, e10, e44, e15, ne_eq, Nat.reduceEqDiff, not_false_eq_true, Nat.reduceLT]) (by simp only [ev_same, ev_other, put_size, hsz, e12, e45, e10, e44, e15, ne_eq, Nat.reduceEqDiff, not_false_eq_true, Nat.reduceLT]) hs) ?_
  refine wpAnyK_any (v := .pointer (some ⟨gs, s * 3 + 2, none⟩)) ho3 hd3 hg3 sel132 (by kernel_rfl) (by kernel_rfl) rfl (fun _ _ _ h => h) (fun _ => hT0) (ex_f76_2 (b := gs) (f := s * 3) hp3 (by simp only [ev_same, ev_other, put_size, hsz, e12, e45, e10, e44, e15, ne_eq, Nat.reduceEqDiff, not_false_eq_true, Nat.reduceLT])) ?_
  refine wpAnyK_held (v := .slice (some ⟨gr, 0, none⟩) ln rc) ho4 hd4 hg4 sel132 (by kernel_rfl) (by kernel_rfl) rfl (by kernel_rfl) (by kernel_rfl) (fun _ _ _ h => h) hT0 (fun W' hx => ex_l56 hp4 (by simp only [ev_same, ev_other, put_size, hsz, e12, e45, e10, e44, e15, ne_eq, Nat.reduceEqDiff, not_false_eq_true, Nat.reduceLT]) hx.1) ?_
  refine wpAnyK_any (v := .slice (some ⟨bA, 0, none⟩) 6 6) ho5 hd5 hg5 sel132 (by kernel_rfl) (by kernel_rfl) rfl (fun _ _ _ h => h) (fun _ => hT0) (ex_move hp5 (by simp only [ev_same, ev_other, put_size, hsz, e12, e45, e10, e44, e15, ne_eq, Nat.reduceEqDiff, not_false_eq_true, Nat.reduceLT])) ?_
  refine wpAnyK_any (v := vi f) ho6 hd6 hg6 sel132 (by kernel_rfl) (by kernel_rfl) rfl (fun _ _ _ h => h) (fun _ => hT0) (ex_move hp6 (by simp only [ev_same, ev_other, put_size, hsz, e12, e45, e10, e44, e15, ne_eq, Nat.reduceEqDiff, not_false_eq_true, Nat.reduceLT])) ?_
  refine wpAnyK_any (v := .pointer (some ⟨bA, f, none⟩)) ho7 hd7 hg7 sel132 (by kernel_rfl) (by kernel_rfl) rfl (fun _ _ _ h => h) (fun _ => hT0) (ex_i56 (b := bA) (n := 6) (c := 6) (k := f) hp7 (by simp only [ev_same, ev_other, put_size, hsz, e12, e45, e10, e44, e15, ne_eq, Nat.reduceEqDiff, not_false_eq_true, Nat.reduceLT]) (by simp only [ev_same, ev_other, put_size, hsz, e12, e45, e10, e44, e15, ne_eq, Nat.reduceEqDiff, not_false_eq_true, Nat.reduceLT]) hf) ?_
  refine wpAnyK_held (v := vi k) ho8 hd8 hg8 sel132 (by kernel_rfl) (by kernel_rfl) rfl (by kernel_rfl) (by kernel_rfl) (fun _ _ _ h => h) hT0 (fun W' hx => ex_l3 hp8 (by simp only [ev_same, ev_other, put_size, hsz, e12, e45, e10, e44, e15, ne_eq, Nat.reduceEqDiff, not_false_eq_true, Nat.reduceLT]) hx.2.1) ?_
  refine wpAnyK_any (v := .pointer (some ⟨sb, 2, none⟩)) ho9 hd9 hg9 sel132 (by kernel_rfl) (by kernel_rfl) rfl (fun _ _ _ h => h) (fun _ => hT0) (ex_f25_2 (b := sb) (f := 0) hp9 (by simp only [ev_same, ev_other, put_size, hsz, e12, e45, e10, e44, e15, ne_eq, Nat.reduceEqDiff, not_false_eq_true, Nat.reduceLT])) ?_
  refine wpAnyK_held (v := .int .i32 r) ho10 hd10 hg10 sel132 (by kernel_rfl) (by kernel_rfl) rfl (by kernel_rfl) (by kernel_rfl) (fun _ _ _ h => h) hT0 (fun W' hx => ex_l21 hp10 (by simp only [ev_same, ev_other, put_size, hsz, e12, e45, e10, e44, e15, ne_eq, Nat.reduceEqDiff, not_false_eq_true, Nat.reduceLT]) hx.2.2) ?_
  refine wpAnyK_any (v := vi r) ho11 hd11 hg11 sel132 (by kernel_rfl) (by kernel_rfl) rfl (fun _ _ _ h => h) (fun _ => hT0) (ex_conv (r := r) hp11 (by simp only [ev_same, ev_other, put_size, hsz, e12, e45, e10, e44, e15, ne_eq, Nat.reduceEqDiff, not_false_eq_true, Nat.reduceLT]) r1 r2) ?_
  refine wpAnyK_any (v := .pointer (some ⟨gr, k, none⟩)) ho12 hd12 hg12 sel132 (by kernel_rfl) (by kernel_rfl) rfl (fun _ _ _ h => h) (fun _ => hT0) (ex_i56 (b := gr) (n := ln) (c := rc) (k := k) hp12 (by simp only [ev_same, ev_other, put_size, hsz, e12, e45, e10, e44, e15, ne_eq, Nat.reduceEqDiff, not_false_eq_true, Nat.reduceLT]) (by simp only [ev_same, ev_other, put_size, hsz, e12, e45, e10, e44, e15, ne_eq, Nat.reduceEqDiff, not_false_eq_true, Nat.reduceLT]) hk) ?_
  refine wpAnyK_1 (by kernel_rfl) (OneK.skip ho13 hd13 hg13 (ex_s3 (b := gr) (f := k) (p := r) hp13 (by simp only [ev_same, ev_other, put_size, hsz, e12, e45, e10, e44, e15, ne_eq, Nat.reduceEqDiff, not_false_eq_true, Nat.reduceLT]) (by simp only [ev_same, ev_other, put_size, hsz, e12, e45, e10, e44, e15, ne_eq, Nat.reduceEqDiff, not_false_eq_true, Nat.reduceLT]) hu hz) (fun e => absurd e (by decide)) ?_)
  refine wpAnyK_done (by kernel_rfl) ?_ _
  refine NoPanic.normal ?_
  obtain ⟨us, hus⟩ := Like.puts ((((((((((((((Like.refl a 707 719).put (d := 707) (by decide) (by decide) (.slice (some ⟨gs, 0, none⟩) ns cap)).put (d := 708) (by decide) (by decide) (vi s)).put (d := 709) (by decide) (by decide) (.pointer (some ⟨gs, s * 3, none⟩))).put (d := 710) (by decide) (by decide) (.pointer (some ⟨gs, s * 3 + 2, none⟩))).put (d := 711) (by decide) (by decide) (.slice (some ⟨gr, 0, none⟩) ln rc)).put (d := 712) (by decide) (by decide) (.slice (some ⟨bA, 0, none⟩) 6 6)).put (d := 713) (by decide) (by decide) (vi f)).put (d := 714) (by decide) (by decide) (.pointer (some ⟨bA, f, none⟩))).put (d := 715) (by decide) (by decide) (vi k)).put (d := 716) (by decide) (by decide) (.pointer (some ⟨sb, 2, none⟩))).put (d := 717) (by decide) (by decide) (.int .i32 r)).put (d := 718) (by decide) (by decide) (vi r)).put (d := 719) (by decide) (by decide) (.pointer (some ⟨gr, k, none⟩))) ((List.range 13).map (· + 707)) (fun n h1 h2 => by simp only [List.mem_map, List.mem_range]; exact ⟨n - 707, by omega, by omega⟩)
  have hfin := hQ us
  rw [← hus] at hfin
  exact hfin
noncomputable def R133 : Array Oper := opsAt Yba.f3 133
theorem sel133 : Region.noSelect R133 = true := by kernel_rfl
set_option maxRecDepth 100000 in
set_option maxHeartbeats 4000000 in
theorem region133 {Q : Exit → Act → World → Prop} {a : Act} {w : World} {gs ns cap s bA f sb gb ln bc k : Nat} {s0 : ByteArray} {s1 : Int} {u v : Value} (hsz : a.tmps.size = 761) (e12 : a.eval (.tmp 12) = .slice (some ⟨gs, 0, none⟩) ns cap) (e45 : a.eval (.tmp 45) = vi s) (e10 : a.eval (.tmp 10) = .slice (some ⟨bA, 0, none⟩) 6 6) (e44 : a.eval (.tmp 44) = vi f) (e46 : a.eval (.tmp 46) = pt sb) (c0 : w.cell? ⟨gs, s * 3 + 1, none⟩ = some (.slice (some ⟨gb, 0, none⟩) ln bc)) (c1 : w.cell? ⟨bA, f, none⟩ = some (vi k)) (c2 : w.cell? ⟨sb, 0, none⟩ = some (.string s0)) (c3 : w.cell? ⟨sb, 0 + 1, none⟩ = some (vi s1)) (hs : (s : Int) < ns) (hf : (f : Int) < (6 : Nat)) (hk : (k : Int) < ln) (hu : w.cell? ⟨gb, k * 2, none⟩ = some u) (hv : w.cell? ⟨gb, k * 2 + 1, none⟩ = some v) (hz : ∀ i, w.frozen? ⟨gb, i, none⟩ = false)
    (hQ : ∀ us, Q .normal (puts a us ((List.range 11).map (· + 720))) ((w.drew.setCell ⟨gb, k * 2, none⟩ (.string s0)).setCell ⟨gb, k * 2 + 1, none⟩ (vi s1))) :
    (Code.region 133 R133 true).wp Yba.prog Q a w := by
  obtain ⟨o0, ho0, hd0, hg0, hp0⟩ := op_at (ops := R133) (i := 0) (d := some 720) (p := .move (.tmp 12)) (by kernel_rfl)
  obtain ⟨o1, ho1, hd1, hg1, hp1⟩ := op_at (ops := R133) (i := 1) (d := some 721) (p := .move (.tmp 45)) (by kernel_rfl)
  obtain ⟨o2, ho2, hd2, hg2, hp2⟩ := op_at (ops := R133) (i := 2) (d := some 722) (p := .indexAddr 71 (.tmp 720) (.tmp 721)) (by kernel_rfl)
  obtain ⟨o3, ho3, hd3, hg3, hp3⟩ := op_at (ops := R133) (i := 3) (d := some 723) (p := .fieldAddr 76 (.tmp 722) 1) (by kernel_rfl)
  obtain ⟨o4, ho4, hd4, hg4, hp4⟩ := op_at (ops := R133) (i := 4) (d := some 724) (p := .load 74 (.tmp 723)) (by kernel_rfl)
  obtain ⟨o5, ho5, hd5, hg5, hp5⟩ := op_at (ops := R133) (i := 5) (d := some 725) (p := .move (.tmp 10)) (by kernel_rfl)
  obtain ⟨o6, ho6, hd6, hg6, hp6⟩ := op_at (ops := R133) (i := 6) (d := some 726) (p := .move (.tmp 44)) (by kernel_rfl)
  obtain ⟨o7, ho7, hd7, hg7, hp7⟩ := op_at (ops := R133) (i := 7) (d := some 727) (p := .indexAddr 56 (.tmp 725) (.tmp 726)) (by kernel_rfl)
  obtain ⟨o8, ho8, hd8, hg8, hp8⟩ := op_at (ops := R133) (i := 8) (d := some 728) (p := .load 3 (.tmp 727)) (by kernel_rfl)
  obtain ⟨o9, ho9, hd9, hg9, hp9⟩ := op_at (ops := R133) (i := 9) (d := some 729) (p := .load 78 (.tmp 46)) (by kernel_rfl)
  obtain ⟨o10, ho10, hd10, hg10, hp10⟩ := op_at (ops := R133) (i := 10) (d := some 730) (p := .indexAddr 74 (.tmp 724) (.tmp 728)) (by kernel_rfl)
  obtain ⟨o11, ho11, hd11, hg11, hp11⟩ := op_at (ops := R133) (i := 11) (d := none) (p := .store 78 (.tmp 730) (.tmp 729)) (by kernel_rfl)
  refine wp_region_noPanic ?_
  refine wp_region_K 11 (fun W => W.cell? ⟨gs, s * 3 + 1, none⟩ = some (.slice (some ⟨gb, 0, none⟩) ln bc) ∧ W.cell? ⟨bA, f, none⟩ = some (vi k) ∧ W.cell? ⟨sb, 0, none⟩ = some (.string s0) ∧ W.cell? ⟨sb, 0 + 1, none⟩ = some (vi s1)) (by kernel_rfl) ?_
  have hT0 : w.drew.cell? ⟨gs, s * 3 + 1, none⟩ = some (.slice (some ⟨gb, 0, none⟩) ln bc) ∧ w.drew.cell? ⟨bA, f, none⟩ = some (vi k) ∧ w.drew.cell? ⟨sb, 0, none⟩ = some (.string s0) ∧ w.drew.cell? ⟨sb, 0 + 1, none⟩ = some (vi s1) := ⟨c0, c1, c2, c3⟩
  rw [show R133.size = 12 by kernel_rfl]
  refine wpAnyK_any (v := .slice (some ⟨gs, 0, none⟩) ns cap) ho0 hd0 hg0 sel133 (by kernel_rfl) (by kernel_rfl) rfl (fun _ _ _ h => h) (fun _ => hT0) (ex_move hp0 (by simp only [ev_same, ev_other, put_size, hsz, e12, e45, e10, e44, e46, ne_eq, Nat.reduceEqDiff, not_false_eq_true, Nat.reduceLT])) ?_
  refine wpAnyK_any (v := vi s) ho1 hd1 hg1 sel133 (by kernel_rfl) (by kernel_rfl) rfl (fun _ _ _ h => h) (fun _ => hT0) (ex_move hp1 (by simp only [ev_same, ev_other, put_size, hsz, e12, e45, e10, e44, e46, ne_eq, Nat.reduceEqDiff, not_false_eq_true, Nat.reduceLT])) ?_
  refine wpAnyK_any (v := .pointer (some ⟨gs, s * 3, none⟩)) ho2 hd2 hg2 sel133 (by kernel_rfl) (by kernel_rfl) rfl (fun _ _ _ h => h) (fun _ => hT0) (ex_i71 (b := gs) (n := ns) (c := cap) (k := s) hp2 (by simp only [ev_same, ev_other, put_size, hsz, e12, e45, e10, e44, e46, ne_eq, Nat.reduceEqDiff, not_false_eq_true, Nat.reduceLT]) (by simp only [ev_same, ev_other, put_size, hsz, e12, e45, e10, e44, e46, ne_eq, Nat.reduceEqDiff, not_false_eq_true, Nat.reduceLT]) hs) ?_
  refine wpAnyK_any (v := .pointer (some ⟨gs, s * 3 + 1, none⟩)) ho3 hd3 hg3 sel133 (by kernel_rfl) (by kernel_rfl) rfl (fun _ _ _ h => h) (fun _ => hT0) (ex_f76_1 (b := gs) (f := s * 3) hp3 (by simp only [ev_same, ev_other, put_size, hsz, e12, e45, e10, e44, e46, ne_eq, Nat.reduceEqDiff, not_false_eq_true, Nat.reduceLT])) ?_
  refine wpAnyK_held (v := .slice (some ⟨gb, 0, none⟩) ln bc) ho4 hd4 hg4 sel133 (by kernel_rfl) (by kernel_rfl) rfl (by kernel_rfl) (by kernel_rfl) (fun _ _ _ h => h) hT0 (fun W' hx => ex_l74 hp4 (by simp only [ev_same, ev_other, put_size, hsz, e12, e45, e10, e44, e46, ne_eq, Nat.reduceEqDiff, not_false_eq_true, Nat.reduceLT]) hx.1) ?_
  refine wpAnyK_any (v := .slice (some ⟨bA, 0, none⟩) 6 6) ho5 hd5 hg5 sel133 (by kernel_rfl) (by kernel_rfl) rfl (fun _ _ _ h => h) (fun _ => hT0) (ex_move hp5 (by simp only [ev_same, ev_other, put_size, hsz, e12, e45, e10, e44, e46, ne_eq, Nat.reduceEqDiff, not_false_eq_true, Nat.reduceLT])) ?_
  refine wpAnyK_any (v := vi f) ho6 hd6 hg6 sel133 (by kernel_rfl) (by kernel_rfl) rfl (fun _ _ _ h => h) (fun _ => hT0) (ex_move hp6 (by simp only [ev_same, ev_other, put_size, hsz, e12, e45, e10, e44, e46, ne_eq, Nat.reduceEqDiff, not_false_eq_true, Nat.reduceLT])) ?_
  refine wpAnyK_any (v := .pointer (some ⟨bA, f, none⟩)) ho7 hd7 hg7 sel133 (by kernel_rfl) (by kernel_rfl) rfl (fun _ _ _ h => h) (fun _ => hT0) (ex_i56 (b := bA) (n := 6) (c := 6) (k := f) hp7 (by simp only [ev_same, ev_other, put_size, hsz, e12, e45, e10, e44, e46, ne_eq, Nat.reduceEqDiff, not_false_eq_true, Nat.reduceLT]) (by simp only [ev_same, ev_other, put_size, hsz, e12, e45, e10, e44, e46, ne_eq, Nat.reduceEqDiff, not_false_eq_true, Nat.reduceLT]) hf) ?_
  refine wpAnyK_held (v := vi k) ho8 hd8 hg8 sel133 (by kernel_rfl) (by kernel_rfl) rfl (by kernel_rfl) (by kernel_rfl) (fun _ _ _ h => h) hT0 (fun W' hx => ex_l3 hp8 (by simp only [ev_same, ev_other, put_size, hsz, e12, e45, e10, e44, e46, ne_eq, Nat.reduceEqDiff, not_false_eq_true, Nat.reduceLT]) hx.2.1) ?_
  refine wpAnyK_held (v := .agg #[.string s0, vi s1]) ho9 hd9 hg9 sel133 (by kernel_rfl) (by kernel_rfl) rfl (by kernel_rfl) (by kernel_rfl) (fun _ _ _ h => h) hT0 (fun W' hx => ex_l78 (b := sb) (f := 0) hp9 (by simp only [ev_same, ev_other, put_size, hsz, e12, e45, e10, e44, e46, ne_eq, Nat.reduceEqDiff, not_false_eq_true, Nat.reduceLT]) hx.2.2.1 hx.2.2.2) ?_
  refine wpAnyK_any (v := .pointer (some ⟨gb, k * 2, none⟩)) ho10 hd10 hg10 sel133 (by kernel_rfl) (by kernel_rfl) rfl (fun _ _ _ h => h) (fun _ => hT0) (ex_i74 (b := gb) (n := ln) (c := bc) (k := k) hp10 (by simp only [ev_same, ev_other, put_size, hsz, e12, e45, e10, e44, e46, ne_eq, Nat.reduceEqDiff, not_false_eq_true, Nat.reduceLT]) (by simp only [ev_same, ev_other, put_size, hsz, e12, e45, e10, e44, e46, ne_eq, Nat.reduceEqDiff, not_false_eq_true, Nat.reduceLT]) hk) ?_
  refine wpAnyK_1 (by kernel_rfl) (OneK.skip ho11 hd11 hg11 (ex_s78 (b := gb) (f := k * 2) (s := s0) (p := s1) hp11 (by simp only [ev_same, ev_other, put_size, hsz, e12, e45, e10, e44, e46, ne_eq, Nat.reduceEqDiff, not_false_eq_true, Nat.reduceLT]) (by simp only [ev_same, ev_other, put_size, hsz, e12, e45, e10, e44, e46, ne_eq, Nat.reduceEqDiff, not_false_eq_true, Nat.reduceLT]) hu hv hz) (fun e => absurd e (by decide)) ?_)
  refine wpAnyK_done (by kernel_rfl) ?_ _
  refine NoPanic.normal ?_
  obtain ⟨us, hus⟩ := Like.puts ((((((((((((Like.refl a 720 730).put (d := 720) (by decide) (by decide) (.slice (some ⟨gs, 0, none⟩) ns cap)).put (d := 721) (by decide) (by decide) (vi s)).put (d := 722) (by decide) (by decide) (.pointer (some ⟨gs, s * 3, none⟩))).put (d := 723) (by decide) (by decide) (.pointer (some ⟨gs, s * 3 + 1, none⟩))).put (d := 724) (by decide) (by decide) (.slice (some ⟨gb, 0, none⟩) ln bc)).put (d := 725) (by decide) (by decide) (.slice (some ⟨bA, 0, none⟩) 6 6)).put (d := 726) (by decide) (by decide) (vi f)).put (d := 727) (by decide) (by decide) (.pointer (some ⟨bA, f, none⟩))).put (d := 728) (by decide) (by decide) (vi k)).put (d := 729) (by decide) (by decide) (.agg #[.string s0, vi s1])).put (d := 730) (by decide) (by decide) (.pointer (some ⟨gb, k * 2, none⟩))) ((List.range 11).map (· + 720)) (fun n h1 h2 => by simp only [List.mem_map, List.mem_range]; exact ⟨n - 720, by omega, by omega⟩)
  have hfin := hQ us
  rw [← hus] at hfin
  exact hfin
noncomputable def R135 : Array Oper := opsAt Yba.f3 135
theorem sel135 : Region.noSelect R135 = true := by kernel_rfl
set_option maxRecDepth 100000 in
set_option maxHeartbeats 4000000 in
theorem region135 {Q : Exit → Act → World → Prop} {a : Act} {w : World} {ab B sb gr ln rc k : Nat} {r : Int} {u : Value} (hsz : a.tmps.size = 761) (e47 : a.eval (.tmp 47) = pt ab) (e15 : a.eval (.tmp 15) = pt sb) (c0 : w.cell? ⟨ab, 0, none⟩ = some (pt B)) (c1 : w.cell? ⟨B, 2, none⟩ = some (.slice (some ⟨gr, 0, none⟩) ln rc)) (c2 : w.cell? ⟨ab, 1, none⟩ = some (vi k)) (c3 : w.cell? ⟨sb, 2, none⟩ = some (.int .i32 r)) (hk : (k : Int) < ln) (r1 : -2147483648 ≤ r) (r2 : r ≤ 2147483647) (hu : w.cell? ⟨gr, k, none⟩ = some u) (hz : w.frozen? ⟨gr, k, none⟩ = false)
    (hQ : ∀ us, Q .normal (puts a us ((List.range 11).map (· + 740))) (w.drew.setCell ⟨gr, k, none⟩ (vi r))) :
    (Code.region 135 R135 true).wp Yba.prog Q a w := by
  obtain ⟨o0, ho0, hd0, hg0, hp0⟩ := op_at (ops := R135) (i := 0) (d := some 740) (p := .fieldAddr 90 (.tmp 47) 0) (by kernel_rfl)
  obtain ⟨o1, ho1, hd1, hg1, hp1⟩ := op_at (ops := R135) (i := 1) (d := some 741) (p := .load 88 (.tmp 740)) (by kernel_rfl)
  obtain ⟨o2, ho2, hd2, hg2, hp2⟩ := op_at (ops := R135) (i := 2) (d := some 742) (p := .nilCheck (.tmp 741)) (by kernel_rfl)
  obtain ⟨o3, ho3, hd3, hg3, hp3⟩ := op_at (ops := R135) (i := 3) (d := some 743) (p := .fieldAddr 103 (.tmp 742) 2) (by kernel_rfl)
  obtain ⟨o4, ho4, hd4, hg4, hp4⟩ := op_at (ops := R135) (i := 4) (d := some 744) (p := .load 56 (.tmp 743)) (by kernel_rfl)
  obtain ⟨o5, ho5, hd5, hg5, hp5⟩ := op_at (ops := R135) (i := 5) (d := some 745) (p := .fieldAddr 90 (.tmp 47) 1) (by kernel_rfl)
  obtain ⟨o6, ho6, hd6, hg6, hp6⟩ := op_at (ops := R135) (i := 6) (d := some 746) (p := .load 3 (.tmp 745)) (by kernel_rfl)
  obtain ⟨o7, ho7, hd7, hg7, hp7⟩ := op_at (ops := R135) (i := 7) (d := some 747) (p := .fieldAddr 25 (.tmp 15) 2) (by kernel_rfl)
  obtain ⟨o8, ho8, hd8, hg8, hp8⟩ := op_at (ops := R135) (i := 8) (d := some 748) (p := .load 21 (.tmp 747)) (by kernel_rfl)
  obtain ⟨o9, ho9, hd9, hg9, hp9⟩ := op_at (ops := R135) (i := 9) (d := some 749) (p := .convert 21 3 (.tmp 748)) (by kernel_rfl)
  obtain ⟨o10, ho10, hd10, hg10, hp10⟩ := op_at (ops := R135) (i := 10) (d := some 750) (p := .indexAddr 56 (.tmp 744) (.tmp 746)) (by kernel_rfl)
  obtain ⟨o11, ho11, hd11, hg11, hp11⟩ := op_at (ops := R135) (i := 11) (d := none) (p := .store 3 (.tmp 750) (.tmp 749)) (by kernel_rfl)
  refine wp_region_noPanic ?_
  refine wp_region_K 11 (fun W => W.cell? ⟨ab, 0, none⟩ = some (pt B) ∧ W.cell? ⟨B, 2, none⟩ = some (.slice (some ⟨gr, 0, none⟩) ln rc) ∧ W.cell? ⟨ab, 1, none⟩ = some (vi k) ∧ W.cell? ⟨sb, 2, none⟩ = some (.int .i32 r)) (by kernel_rfl) ?_
  have hT0 : w.drew.cell? ⟨ab, 0, none⟩ = some (pt B) ∧ w.drew.cell? ⟨B, 2, none⟩ = some (.slice (some ⟨gr, 0, none⟩) ln rc) ∧ w.drew.cell? ⟨ab, 1, none⟩ = some (vi k) ∧ w.drew.cell? ⟨sb, 2, none⟩ = some (.int .i32 r) := ⟨c0, c1, c2, c3⟩
  rw [show R135.size = 12 by kernel_rfl]
  refine wpAnyK_any (v := .pointer (some ⟨ab, 0, none⟩)) ho0 hd0 hg0 sel135 (by kernel_rfl) (by kernel_rfl) rfl (fun _ _ _ h => h) (fun _ => hT0) (ex_f90_0 (b := ab) (f := 0) hp0 (by simp only [ev_same, ev_other, put_size, hsz, e47, e15, ne_eq, Nat.reduceEqDiff, not_false_eq_true, Nat.reduceLT])) ?_
  refine wpAnyK_held (v := pt B) ho1 hd1 hg1 sel135 (by kernel_rfl) (by kernel_rfl) rfl (by kernel_rfl) (by kernel_rfl) (fun _ _ _ h => h) hT0 (fun W' hx => ex_l88 hp1 (by simp only [ev_same, ev_other, put_size, hsz, e47, e15, ne_eq, Nat.reduceEqDiff, not_false_eq_true, Nat.reduceLT]) hx.1) ?_
  refine wpAnyK_any (v := pt B) ho2 hd2 hg2 sel135 (by kernel_rfl) (by kernel_rfl) rfl (fun _ _ _ h => h) (fun _ => hT0) (ex_nil hp2 (by simp only [ev_same, ev_other, put_size, hsz, e47, e15, ne_eq, Nat.reduceEqDiff, not_false_eq_true, Nat.reduceLT])) ?_
  refine wpAnyK_any (v := .pointer (some ⟨B, 2, none⟩)) ho3 hd3 hg3 sel135 (by kernel_rfl) (by kernel_rfl) rfl (fun _ _ _ h => h) (fun _ => hT0) (ex_f103_2 (b := B) (f := 0) hp3 (by simp only [ev_same, ev_other, put_size, hsz, e47, e15, ne_eq, Nat.reduceEqDiff, not_false_eq_true, Nat.reduceLT])) ?_
  refine wpAnyK_held (v := .slice (some ⟨gr, 0, none⟩) ln rc) ho4 hd4 hg4 sel135 (by kernel_rfl) (by kernel_rfl) rfl (by kernel_rfl) (by kernel_rfl) (fun _ _ _ h => h) hT0 (fun W' hx => ex_l56 hp4 (by simp only [ev_same, ev_other, put_size, hsz, e47, e15, ne_eq, Nat.reduceEqDiff, not_false_eq_true, Nat.reduceLT]) hx.2.1) ?_
  refine wpAnyK_any (v := .pointer (some ⟨ab, 1, none⟩)) ho5 hd5 hg5 sel135 (by kernel_rfl) (by kernel_rfl) rfl (fun _ _ _ h => h) (fun _ => hT0) (ex_f90_1 (b := ab) (f := 0) hp5 (by simp only [ev_same, ev_other, put_size, hsz, e47, e15, ne_eq, Nat.reduceEqDiff, not_false_eq_true, Nat.reduceLT])) ?_
  refine wpAnyK_held (v := vi k) ho6 hd6 hg6 sel135 (by kernel_rfl) (by kernel_rfl) rfl (by kernel_rfl) (by kernel_rfl) (fun _ _ _ h => h) hT0 (fun W' hx => ex_l3 hp6 (by simp only [ev_same, ev_other, put_size, hsz, e47, e15, ne_eq, Nat.reduceEqDiff, not_false_eq_true, Nat.reduceLT]) hx.2.2.1) ?_
  refine wpAnyK_any (v := .pointer (some ⟨sb, 2, none⟩)) ho7 hd7 hg7 sel135 (by kernel_rfl) (by kernel_rfl) rfl (fun _ _ _ h => h) (fun _ => hT0) (ex_f25_2 (b := sb) (f := 0) hp7 (by simp only [ev_same, ev_other, put_size, hsz, e47, e15, ne_eq, Nat.reduceEqDiff, not_false_eq_true, Nat.reduceLT])) ?_
  refine wpAnyK_held (v := .int .i32 r) ho8 hd8 hg8 sel135 (by kernel_rfl) (by kernel_rfl) rfl (by kernel_rfl) (by kernel_rfl) (fun _ _ _ h => h) hT0 (fun W' hx => ex_l21 hp8 (by simp only [ev_same, ev_other, put_size, hsz, e47, e15, ne_eq, Nat.reduceEqDiff, not_false_eq_true, Nat.reduceLT]) hx.2.2.2) ?_
  refine wpAnyK_any (v := vi r) ho9 hd9 hg9 sel135 (by kernel_rfl) (by kernel_rfl) rfl (fun _ _ _ h => h) (fun _ => hT0) (ex_conv (r := r) hp9 (by simp only [ev_same, ev_other, put_size, hsz, e47, e15, ne_eq, Nat.reduceEqDiff, not_false_eq_true, Nat.reduceLT]) r1 r2) ?_
  refine wpAnyK_any (v := .pointer (some ⟨gr, k, none⟩)) ho10 hd10 hg10 sel135 (by kernel_rfl) (by kernel_rfl) rfl (fun _ _ _ h => h) (fun _ => hT0) (ex_i56 (b := gr) (n := ln) (c := rc) (k := k) hp10 (by simp only [ev_same, ev_other, put_size, hsz, e47, e15, ne_eq, Nat.reduceEqDiff, not_false_eq_true, Nat.reduceLT]) (by simp only [ev_same, ev_other, put_size, hsz, e47, e15, ne_eq, Nat.reduceEqDiff, not_false_eq_true, Nat.reduceLT]) hk) ?_
  refine wpAnyK_1 (by kernel_rfl) (OneK.skip ho11 hd11 hg11 (ex_s3 (b := gr) (f := k) (p := r) hp11 (by simp only [ev_same, ev_other, put_size, hsz, e47, e15, ne_eq, Nat.reduceEqDiff, not_false_eq_true, Nat.reduceLT]) (by simp only [ev_same, ev_other, put_size, hsz, e47, e15, ne_eq, Nat.reduceEqDiff, not_false_eq_true, Nat.reduceLT]) hu hz) (fun e => absurd e (by decide)) ?_)
  refine wpAnyK_done (by kernel_rfl) ?_ _
  refine NoPanic.normal ?_
  obtain ⟨us, hus⟩ := Like.puts ((((((((((((Like.refl a 740 750).put (d := 740) (by decide) (by decide) (.pointer (some ⟨ab, 0, none⟩))).put (d := 741) (by decide) (by decide) (pt B)).put (d := 742) (by decide) (by decide) (pt B)).put (d := 743) (by decide) (by decide) (.pointer (some ⟨B, 2, none⟩))).put (d := 744) (by decide) (by decide) (.slice (some ⟨gr, 0, none⟩) ln rc)).put (d := 745) (by decide) (by decide) (.pointer (some ⟨ab, 1, none⟩))).put (d := 746) (by decide) (by decide) (vi k)).put (d := 747) (by decide) (by decide) (.pointer (some ⟨sb, 2, none⟩))).put (d := 748) (by decide) (by decide) (.int .i32 r)).put (d := 749) (by decide) (by decide) (vi r)).put (d := 750) (by decide) (by decide) (.pointer (some ⟨gr, k, none⟩))) ((List.range 11).map (· + 740)) (fun n h1 h2 => by simp only [List.mem_map, List.mem_range]; exact ⟨n - 740, by omega, by omega⟩)
  have hfin := hQ us
  rw [← hus] at hfin
  exact hfin
noncomputable def R136 : Array Oper := opsAt Yba.f3 136
theorem sel136 : Region.noSelect R136 = true := by kernel_rfl
set_option maxRecDepth 100000 in
set_option maxHeartbeats 4000000 in
theorem region136 {Q : Exit → Act → World → Prop} {a : Act} {w : World} {ab B sb gb ln bc k : Nat} {s0 : ByteArray} {s1 : Int} {u v : Value} (hsz : a.tmps.size = 761) (e47 : a.eval (.tmp 47) = pt ab) (e46 : a.eval (.tmp 46) = pt sb) (c0 : w.cell? ⟨ab, 0, none⟩ = some (pt B)) (c1 : w.cell? ⟨B, 1, none⟩ = some (.slice (some ⟨gb, 0, none⟩) ln bc)) (c2 : w.cell? ⟨ab, 1, none⟩ = some (vi k)) (c3 : w.cell? ⟨sb, 0, none⟩ = some (.string s0)) (c4 : w.cell? ⟨sb, 0 + 1, none⟩ = some (vi s1)) (hk : (k : Int) < ln) (hu : w.cell? ⟨gb, k * 2, none⟩ = some u) (hv : w.cell? ⟨gb, k * 2 + 1, none⟩ = some v) (hz : ∀ i, w.frozen? ⟨gb, i, none⟩ = false)
    (hQ : ∀ us, Q .normal (puts a us ((List.range 9).map (· + 751))) ((w.drew.setCell ⟨gb, k * 2, none⟩ (.string s0)).setCell ⟨gb, k * 2 + 1, none⟩ (vi s1))) :
    (Code.region 136 R136 true).wp Yba.prog Q a w := by
  obtain ⟨o0, ho0, hd0, hg0, hp0⟩ := op_at (ops := R136) (i := 0) (d := some 751) (p := .fieldAddr 90 (.tmp 47) 0) (by kernel_rfl)
  obtain ⟨o1, ho1, hd1, hg1, hp1⟩ := op_at (ops := R136) (i := 1) (d := some 752) (p := .load 88 (.tmp 751)) (by kernel_rfl)
  obtain ⟨o2, ho2, hd2, hg2, hp2⟩ := op_at (ops := R136) (i := 2) (d := some 753) (p := .nilCheck (.tmp 752)) (by kernel_rfl)
  obtain ⟨o3, ho3, hd3, hg3, hp3⟩ := op_at (ops := R136) (i := 3) (d := some 754) (p := .fieldAddr 103 (.tmp 753) 1) (by kernel_rfl)
  obtain ⟨o4, ho4, hd4, hg4, hp4⟩ := op_at (ops := R136) (i := 4) (d := some 755) (p := .load 74 (.tmp 754)) (by kernel_rfl)
  obtain ⟨o5, ho5, hd5, hg5, hp5⟩ := op_at (ops := R136) (i := 5) (d := some 756) (p := .fieldAddr 90 (.tmp 47) 1) (by kernel_rfl)
  obtain ⟨o6, ho6, hd6, hg6, hp6⟩ := op_at (ops := R136) (i := 6) (d := some 757) (p := .load 3 (.tmp 756)) (by kernel_rfl)
  obtain ⟨o7, ho7, hd7, hg7, hp7⟩ := op_at (ops := R136) (i := 7) (d := some 758) (p := .load 78 (.tmp 46)) (by kernel_rfl)
  obtain ⟨o8, ho8, hd8, hg8, hp8⟩ := op_at (ops := R136) (i := 8) (d := some 759) (p := .indexAddr 74 (.tmp 755) (.tmp 757)) (by kernel_rfl)
  obtain ⟨o9, ho9, hd9, hg9, hp9⟩ := op_at (ops := R136) (i := 9) (d := none) (p := .store 78 (.tmp 759) (.tmp 758)) (by kernel_rfl)
  refine wp_region_noPanic ?_
  refine wp_region_K 9 (fun W => W.cell? ⟨ab, 0, none⟩ = some (pt B) ∧ W.cell? ⟨B, 1, none⟩ = some (.slice (some ⟨gb, 0, none⟩) ln bc) ∧ W.cell? ⟨ab, 1, none⟩ = some (vi k) ∧ W.cell? ⟨sb, 0, none⟩ = some (.string s0) ∧ W.cell? ⟨sb, 0 + 1, none⟩ = some (vi s1)) (by kernel_rfl) ?_
  have hT0 : w.drew.cell? ⟨ab, 0, none⟩ = some (pt B) ∧ w.drew.cell? ⟨B, 1, none⟩ = some (.slice (some ⟨gb, 0, none⟩) ln bc) ∧ w.drew.cell? ⟨ab, 1, none⟩ = some (vi k) ∧ w.drew.cell? ⟨sb, 0, none⟩ = some (.string s0) ∧ w.drew.cell? ⟨sb, 0 + 1, none⟩ = some (vi s1) := ⟨c0, c1, c2, c3, c4⟩
  rw [show R136.size = 10 by kernel_rfl]
  refine wpAnyK_any (v := .pointer (some ⟨ab, 0, none⟩)) ho0 hd0 hg0 sel136 (by kernel_rfl) (by kernel_rfl) rfl (fun _ _ _ h => h) (fun _ => hT0) (ex_f90_0 (b := ab) (f := 0) hp0 (by simp only [ev_same, ev_other, put_size, hsz, e47, e46, ne_eq, Nat.reduceEqDiff, not_false_eq_true, Nat.reduceLT])) ?_
  refine wpAnyK_held (v := pt B) ho1 hd1 hg1 sel136 (by kernel_rfl) (by kernel_rfl) rfl (by kernel_rfl) (by kernel_rfl) (fun _ _ _ h => h) hT0 (fun W' hx => ex_l88 hp1 (by simp only [ev_same, ev_other, put_size, hsz, e47, e46, ne_eq, Nat.reduceEqDiff, not_false_eq_true, Nat.reduceLT]) hx.1) ?_
  refine wpAnyK_any (v := pt B) ho2 hd2 hg2 sel136 (by kernel_rfl) (by kernel_rfl) rfl (fun _ _ _ h => h) (fun _ => hT0) (ex_nil hp2 (by simp only [ev_same, ev_other, put_size, hsz, e47, e46, ne_eq, Nat.reduceEqDiff, not_false_eq_true, Nat.reduceLT])) ?_
  refine wpAnyK_any (v := .pointer (some ⟨B, 1, none⟩)) ho3 hd3 hg3 sel136 (by kernel_rfl) (by kernel_rfl) rfl (fun _ _ _ h => h) (fun _ => hT0) (ex_f103_1 (b := B) (f := 0) hp3 (by simp only [ev_same, ev_other, put_size, hsz, e47, e46, ne_eq, Nat.reduceEqDiff, not_false_eq_true, Nat.reduceLT])) ?_
  refine wpAnyK_held (v := .slice (some ⟨gb, 0, none⟩) ln bc) ho4 hd4 hg4 sel136 (by kernel_rfl) (by kernel_rfl) rfl (by kernel_rfl) (by kernel_rfl) (fun _ _ _ h => h) hT0 (fun W' hx => ex_l74 hp4 (by simp only [ev_same, ev_other, put_size, hsz, e47, e46, ne_eq, Nat.reduceEqDiff, not_false_eq_true, Nat.reduceLT]) hx.2.1) ?_
  refine wpAnyK_any (v := .pointer (some ⟨ab, 1, none⟩)) ho5 hd5 hg5 sel136 (by kernel_rfl) (by kernel_rfl) rfl (fun _ _ _ h => h) (fun _ => hT0) (ex_f90_1 (b := ab) (f := 0) hp5 (by simp only [ev_same, ev_other, put_size, hsz, e47, e46, ne_eq, Nat.reduceEqDiff, not_false_eq_true, Nat.reduceLT])) ?_
  refine wpAnyK_held (v := vi k) ho6 hd6 hg6 sel136 (by kernel_rfl) (by kernel_rfl) rfl (by kernel_rfl) (by kernel_rfl) (fun _ _ _ h => h) hT0 (fun W' hx => ex_l3 hp6 (by simp only [ev_same, ev_other, put_size, hsz, e47, e46, ne_eq, Nat.reduceEqDiff, not_false_eq_true, Nat.reduceLT]) hx.2.2.1) ?_
  refine wpAnyK_held (v := .agg #[.string s0, vi s1]) ho7 hd7 hg7 sel136 (by kernel_rfl) (by kernel_rfl) rfl (by kernel_rfl) (by kernel_rfl) (fun _ _ _ h => h) hT0 (fun W' hx => ex_l78 (b := sb) (f := 0) hp7 (by simp only [ev_same, ev_other, put_size, hsz, e47, e46, ne_eq, Nat.reduceEqDiff, not_false_eq_true, Nat.reduceLT]) hx.2.2.2.1 hx.2.2.2.2) ?_
  refine wpAnyK_any (v := .pointer (some ⟨gb, k * 2, none⟩)) ho8 hd8 hg8 sel136 (by kernel_rfl) (by kernel_rfl) rfl (fun _ _ _ h => h) (fun _ => hT0) (ex_i74 (b := gb) (n := ln) (c := bc) (k := k) hp8 (by simp only [ev_same, ev_other, put_size, hsz, e47, e46, ne_eq, Nat.reduceEqDiff, not_false_eq_true, Nat.reduceLT]) (by simp only [ev_same, ev_other, put_size, hsz, e47, e46, ne_eq, Nat.reduceEqDiff, not_false_eq_true, Nat.reduceLT]) hk) ?_
  refine wpAnyK_1 (by kernel_rfl) (OneK.skip ho9 hd9 hg9 (ex_s78 (b := gb) (f := k * 2) (s := s0) (p := s1) hp9 (by simp only [ev_same, ev_other, put_size, hsz, e47, e46, ne_eq, Nat.reduceEqDiff, not_false_eq_true, Nat.reduceLT]) (by simp only [ev_same, ev_other, put_size, hsz, e47, e46, ne_eq, Nat.reduceEqDiff, not_false_eq_true, Nat.reduceLT]) hu hv hz) (fun e => absurd e (by decide)) ?_)
  refine wpAnyK_done (by kernel_rfl) ?_ _
  refine NoPanic.normal ?_
  obtain ⟨us, hus⟩ := Like.puts ((((((((((Like.refl a 751 759).put (d := 751) (by decide) (by decide) (.pointer (some ⟨ab, 0, none⟩))).put (d := 752) (by decide) (by decide) (pt B)).put (d := 753) (by decide) (by decide) (pt B)).put (d := 754) (by decide) (by decide) (.pointer (some ⟨B, 1, none⟩))).put (d := 755) (by decide) (by decide) (.slice (some ⟨gb, 0, none⟩) ln bc)).put (d := 756) (by decide) (by decide) (.pointer (some ⟨ab, 1, none⟩))).put (d := 757) (by decide) (by decide) (vi k)).put (d := 758) (by decide) (by decide) (.agg #[.string s0, vi s1])).put (d := 759) (by decide) (by decide) (.pointer (some ⟨gb, k * 2, none⟩))) ((List.range 9).map (· + 751)) (fun n h1 h2 => by simp only [List.mem_map, List.mem_range]; exact ⟨n - 751, by omega, by omega⟩)
  have hfin := hQ us
  rw [← hus] at hfin
  exact hfin
end Go.Proofs.Ybulkeaca.CW
