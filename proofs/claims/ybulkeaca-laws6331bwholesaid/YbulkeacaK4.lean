import Derived.Test.YbulkeacaK2
import Derived.Test.YbulkeacaC7
namespace Go.Proofs.Ybulkeaca.CW
open Go.RowKit Go.Proofs.Ybulkeaca.Kit
set_option linter.unusedSimpArgs false
noncomputable def R64 : Array Oper := opsAt Yba.f3 64
theorem sel64 : Region.noSelect R64 = true := by kernel_rfl

set_option maxRecDepth 100000 in
set_option maxHeartbeats 4000000 in
theorem region64 {Q : Exit → Act → World → Prop} {a : Act} {w0 w : World} {D : Desc} {s i gs ns cap Lb n : Nat} {f : Int} {v0 : Value} {xs stC lC : List Value} (hsz : a.tmps.size = 761) (e12 : a.eval (.tmp 12) = .slice (some ⟨gs, 0, none⟩) ns cap) (e23 : a.eval (.tmp 23) = vi s) (e16 : a.eval (.tmp 16) = .slice (some ⟨Lb, 0, none⟩) n n) (e21 : a.eval (.tmp 21) = vi i) (hs : (s : Int) < ns) (hi : (i : Int) < n)
    (h : Holds w0 w D) (hst : D .sts = some (gs, row stC 76)) (hc : stC[s * 3]? = some v0) (hL : D .L = some (Lb, row lC 3)) (hl : lC[i]? = some (vi f)) (h1 : Sl D (.ml s) 3 1 v0 xs) (l1 : xs.length ≤ 10000000)
    (hQ : ∀ us w' D' g k c, Holds w0 w' D' → D' .sts = some (gs, row (stC.set (s * 3) (.slice (some ⟨g, 0, none⟩) k c)) 76) → Sl D' (.ml s) 3 1 (.slice (some ⟨g, 0, none⟩) k c) (xs ++ [vi f]) → (∀ t, (∀ m, t ≠ .x m) → t ≠ .sts → t ≠ .ml s → D' t = D t) → Q .normal (puts a us ((List.range 15).map (· + 254))) w') :
    (Code.region 64 R64 true).wp Yba.prog Q a w := by
  obtain ⟨o0, ho0, hd0, hg0, hp0⟩ := op_at (ops := R64) (i := 0) (d := some 254) (p := .move (.tmp 12)) (by kernel_rfl)
  obtain ⟨o1, ho1, hd1, hg1, hp1⟩ := op_at (ops := R64) (i := 1) (d := some 255) (p := .move (.tmp 23)) (by kernel_rfl)
  obtain ⟨o2, ho2, hd2, hg2, hp2⟩ := op_at (ops := R64) (i := 2) (d := some 256) (p := .move (.tmp 12)) (by kernel_rfl)
  obtain ⟨o3, ho3, hd3, hg3, hp3⟩ := op_at (ops := R64) (i := 3) (d := some 257) (p := .move (.tmp 23)) (by kernel_rfl)
  obtain ⟨o4, ho4, hd4, hg4, hp4⟩ := op_at (ops := R64) (i := 4) (d := some 258) (p := .indexAddr 71 (.tmp 256) (.tmp 257)) (by kernel_rfl)
  obtain ⟨o5, ho5, hd5, hg5, hp5⟩ := op_at (ops := R64) (i := 5) (d := some 259) (p := .fieldAddr 76 (.tmp 258) 0) (by kernel_rfl)
  obtain ⟨o6, ho6, hd6, hg6, hp6⟩ := op_at (ops := R64) (i := 6) (d := some 260) (p := .load 56 (.tmp 259)) (by kernel_rfl)
  obtain ⟨o7, ho7, hd7, hg7, hp7⟩ := op_at (ops := R64) (i := 7) (d := some 261) (p := .move (.tmp 16)) (by kernel_rfl)
  obtain ⟨o8, ho8, hd8, hg8, hp8⟩ := op_at (ops := R64) (i := 8) (d := some 262) (p := .move (.tmp 21)) (by kernel_rfl)
  obtain ⟨o9, ho9, hd9, hg9, hp9⟩ := op_at (ops := R64) (i := 9) (d := some 263) (p := .indexAddr 56 (.tmp 261) (.tmp 262)) (by kernel_rfl)
  obtain ⟨o10, ho10, hd10, hg10, hp10⟩ := op_at (ops := R64) (i := 10) (d := some 264) (p := .load 3 (.tmp 263)) (by kernel_rfl)
  obtain ⟨o11, ho11, hd11, hg11, hp11⟩ := op_at (ops := R64) (i := 11) (d := some 265) (p := .buildSlice 56 1 #[(0, .tmp 264)]) (by kernel_rfl)
  obtain ⟨o12, ho12, hd12, hg12, hp12⟩ := op_at (ops := R64) (i := 12) (d := some 266) (p := .call { callee := .builtin .append, args := #[.tmp 260, .tmp 265], argTypes := #[56, 56] }) (by kernel_rfl)
  obtain ⟨o13, ho13, hd13, hg13, hp13⟩ := op_at (ops := R64) (i := 13) (d := some 267) (p := .indexAddr 71 (.tmp 254) (.tmp 255)) (by kernel_rfl)
  obtain ⟨o14, ho14, hd14, hg14, hp14⟩ := op_at (ops := R64) (i := 14) (d := some 268) (p := .fieldAddr 76 (.tmp 267) 0) (by kernel_rfl)
  obtain ⟨o15, ho15, hd15, hg15, hp15⟩ := op_at (ops := R64) (i := 15) (d := none) (p := .store 56 (.tmp 268) (.tmp 266)) (by kernel_rfl)
  refine wp_region_noPanic ?_
  refine wp_region_K 15 (fun W => W.cell? ⟨gs, s * 3, none⟩ = some v0 ∧ W.cell? ⟨Lb, i, none⟩ = some (vi f)) (by kernel_rfl) ?_
  have hT : ∀ W DD, Holds w0 W DD → DD .sts = D .sts → DD .L = D .L → (W.cell? ⟨gs, s * 3, none⟩ = some v0 ∧ W.cell? ⟨Lb, i, none⟩ = some (vi f)) := fun W DD hW a1 a2 => ⟨hW.cell (a1.trans hst) hc, hW.cell (a2.trans hL) hl⟩
  have hh := h.drew
  have hT0 := hT _ _ hh rfl rfl
  generalize w.drew = W at *
  rw [show R64.size = 16 by kernel_rfl]
  refine wpAnyK_any (v := .slice (some ⟨gs, 0, none⟩) ns cap) ho0 hd0 hg0 sel64 (by kernel_rfl) (by kernel_rfl) rfl (fun _ _ _ h => h) (fun _ => hT0) (ex_move hp0 (by simp only [ev_same, ev_other, put_size, hsz, e12, e23, e16, e21, ne_eq, Nat.reduceEqDiff, not_false_eq_true, Nat.reduceLT])) ?_
  refine wpAnyK_any (v := vi s) ho1 hd1 hg1 sel64 (by kernel_rfl) (by kernel_rfl) rfl (fun _ _ _ h => h) (fun _ => hT0) (ex_move hp1 (by simp only [ev_same, ev_other, put_size, hsz, e12, e23, e16, e21, ne_eq, Nat.reduceEqDiff, not_false_eq_true, Nat.reduceLT])) ?_
  refine wpAnyK_any (v := .slice (some ⟨gs, 0, none⟩) ns cap) ho2 hd2 hg2 sel64 (by kernel_rfl) (by kernel_rfl) rfl (fun _ _ _ h => h) (fun _ => hT0) (ex_move hp2 (by simp only [ev_same, ev_other, put_size, hsz, e12, e23, e16, e21, ne_eq, Nat.reduceEqDiff, not_false_eq_true, Nat.reduceLT])) ?_
  refine wpAnyK_any (v := vi s) ho3 hd3 hg3 sel64 (by kernel_rfl) (by kernel_rfl) rfl (fun _ _ _ h => h) (fun _ => hT0) (ex_move hp3 (by simp only [ev_same, ev_other, put_size, hsz, e12, e23, e16, e21, ne_eq, Nat.reduceEqDiff, not_false_eq_true, Nat.reduceLT])) ?_
  refine wpAnyK_any (v := .pointer (some ⟨gs, s * 3, none⟩)) ho4 hd4 hg4 sel64 (by kernel_rfl) (by kernel_rfl) rfl (fun _ _ _ h => h) (fun _ => hT0) (ex_i71 (b := gs) (n := ns) (c := cap) (k := s) hp4 (by simp only [ev_same, ev_other, put_size, hsz, e12, e23, e16, e21, ne_eq, Nat.reduceEqDiff, not_false_eq_true, Nat.reduceLT]) (by simp only [ev_same, ev_other, put_size, hsz, e12, e23, e16, e21, ne_eq, Nat.reduceEqDiff, not_false_eq_true, Nat.reduceLT]) hs) ?_
  refine wpAnyK_any (v := .pointer (some ⟨gs, s * 3, none⟩)) ho5 hd5 hg5 sel64 (by kernel_rfl) (by kernel_rfl) rfl (fun _ _ _ h => h) (fun _ => hT0) (ex_f76_0 (b := gs) (f := s * 3) hp5 (by simp only [ev_same, ev_other, put_size, hsz, e12, e23, e16, e21, ne_eq, Nat.reduceEqDiff, not_false_eq_true, Nat.reduceLT])) ?_
  refine wpAnyK_held (v := v0) ho6 hd6 hg6 sel64 (by kernel_rfl) (by kernel_rfl) rfl (by kernel_rfl) (by kernel_rfl) (fun _ _ _ h => h) hT0 (fun W' hx => ex_l56 hp6 (by simp only [ev_same, ev_other, put_size, hsz, e12, e23, e16, e21, ne_eq, Nat.reduceEqDiff, not_false_eq_true, Nat.reduceLT]) hx.1) ?_
  refine wpAnyK_any (v := .slice (some ⟨Lb, 0, none⟩) n n) ho7 hd7 hg7 sel64 (by kernel_rfl) (by kernel_rfl) rfl (fun _ _ _ h => h) (fun _ => hT0) (ex_move hp7 (by simp only [ev_same, ev_other, put_size, hsz, e12, e23, e16, e21, ne_eq, Nat.reduceEqDiff, not_false_eq_true, Nat.reduceLT])) ?_
  refine wpAnyK_any (v := vi i) ho8 hd8 hg8 sel64 (by kernel_rfl) (by kernel_rfl) rfl (fun _ _ _ h => h) (fun _ => hT0) (ex_move hp8 (by simp only [ev_same, ev_other, put_size, hsz, e12, e23, e16, e21, ne_eq, Nat.reduceEqDiff, not_false_eq_true, Nat.reduceLT])) ?_
  refine wpAnyK_any (v := .pointer (some ⟨Lb, i, none⟩)) ho9 hd9 hg9 sel64 (by kernel_rfl) (by kernel_rfl) rfl (fun _ _ _ h => h) (fun _ => hT0) (ex_i56 (b := Lb) (n := n) (c := n) (k := i) hp9 (by simp only [ev_same, ev_other, put_size, hsz, e12, e23, e16, e21, ne_eq, Nat.reduceEqDiff, not_false_eq_true, Nat.reduceLT]) (by simp only [ev_same, ev_other, put_size, hsz, e12, e23, e16, e21, ne_eq, Nat.reduceEqDiff, not_false_eq_true, Nat.reduceLT]) hi) ?_
  refine wpAnyK_held (v := vi f) ho10 hd10 hg10 sel64 (by kernel_rfl) (by kernel_rfl) rfl (by kernel_rfl) (by kernel_rfl) (fun _ _ _ h => h) hT0 (fun W' hx => ex_l3 hp10 (by simp only [ev_same, ev_other, put_size, hsz, e12, e23, e16, e21, ne_eq, Nat.reduceEqDiff, not_false_eq_true, Nat.reduceLT]) hx.2) ?_
  have hb := hh.new (.x 2) (row [vi f] 3)
  refine wpAnyK_1 (by kernel_rfl) (OneK.run ho11 hd11 hg11 (ex_bs56 (b := f) hp11 (by simp only [ev_same, ev_other, put_size, hsz, e12, e23, e16, e21, ne_eq, Nat.reduceEqDiff, not_false_eq_true, Nat.reduceLT]) _) (fun _ => hT _ _ hb (upd_other (by simp)) (upd_other (by simp))) ?_)
  obtain ⟨g, k, c, w', o, hr, _, r2, r3⟩ := run_append_sl (ty := o12.type) (c := 1) elem56 hb (h1.other (by simp) _ _) (hb.row (upd_same _ _ _ _)) rfl (by simp [Value.oneCell']) l1
  have hT1 := hT _ _ r2 (by rw [upd_other (by simp), upd_other (by simp)]) (by rw [upd_other (by simp), upd_other (by simp)])
  refine wpAnyK_1 (by kernel_rfl) (OneK.run ho12 hd12 hg12 (ex_append hp12 (by simp only [ev_same, ev_other, put_size, hsz, e12, e23, e16, e21, ne_eq, Nat.reduceEqDiff, not_false_eq_true, Nat.reduceLT]) (by simp only [ev_same, ev_other, put_size, hsz, e12, e23, e16, e21, ne_eq, Nat.reduceEqDiff, not_false_eq_true, Nat.reduceLT]) hr) (fun _ => hT1) ?_)
  have hst2 : upd (upd D (.x 2) W.heap.size (row [vi f] 3)) (.ml s) g o .sts = some (gs, row stC 76) := by rw [upd_other (by simp), upd_other (by simp)]; exact hst
  refine wpAnyK_any (v := .pointer (some ⟨gs, s * 3, none⟩)) ho13 hd13 hg13 sel64 (by kernel_rfl) (by kernel_rfl) rfl (fun _ _ _ h => h) (fun _ => hT1) (ex_i71 (b := gs) (n := ns) (c := cap) (k := s) hp13 (by simp only [ev_same, ev_other, put_size, hsz, e12, e23, e16, e21, ne_eq, Nat.reduceEqDiff, not_false_eq_true, Nat.reduceLT]) (by simp only [ev_same, ev_other, put_size, hsz, e12, e23, e16, e21, ne_eq, Nat.reduceEqDiff, not_false_eq_true, Nat.reduceLT]) hs) ?_
  refine wpAnyK_any (v := .pointer (some ⟨gs, s * 3, none⟩)) ho14 hd14 hg14 sel64 (by kernel_rfl) (by kernel_rfl) rfl (fun _ _ _ h => h) (fun _ => hT1) (ex_f76_0 (b := gs) (f := s * 3) hp14 (by simp only [ev_same, ev_other, put_size, hsz, e12, e23, e16, e21, ne_eq, Nat.reduceEqDiff, not_false_eq_true, Nat.reduceLT])) ?_
  have q3 := r2.set hst2 (s * 3) (.slice (some ⟨g, 0, none⟩) k c)
  refine wpAnyK_1 (by kernel_rfl) (OneK.skip ho15 hd15 hg15 (ex_s56 (b := gs) (f := s * 3) (z := some ⟨g, 0, none⟩) (k := k) (c := c) hp15 (by simp only [ev_same, ev_other, put_size, hsz, e12, e23, e16, e21, ne_eq, Nat.reduceEqDiff, not_false_eq_true, Nat.reduceLT]) (by simp only [ev_same, ev_other, put_size, hsz, e12, e23, e16, e21, ne_eq, Nat.reduceEqDiff, not_false_eq_true, Nat.reduceLT]) (r2.cell hst2 hc) (r2.free hst2 _)) (fun e => absurd e (by decide)) ?_)
  refine wpAnyK_done (by kernel_rfl) ?_ _
  refine NoPanic.normal ?_
  obtain ⟨us, hus⟩ := Like.puts ((((((((((((((((Like.refl a 254 268).put (d := 254) (by decide) (by decide) (.slice (some ⟨gs, 0, none⟩) ns cap)).put (d := 255) (by decide) (by decide) (vi s)).put (d := 256) (by decide) (by decide) (.slice (some ⟨gs, 0, none⟩) ns cap)).put (d := 257) (by decide) (by decide) (vi s)).put (d := 258) (by decide) (by decide) (.pointer (some ⟨gs, s * 3, none⟩))).put (d := 259) (by decide) (by decide) (.pointer (some ⟨gs, s * 3, none⟩))).put (d := 260) (by decide) (by decide) (v0)).put (d := 261) (by decide) (by decide) (.slice (some ⟨Lb, 0, none⟩) n n)).put (d := 262) (by decide) (by decide) (vi i)).put (d := 263) (by decide) (by decide) (.pointer (some ⟨Lb, i, none⟩))).put (d := 264) (by decide) (by decide) (vi f)).put (d := 265) (by decide) (by decide) (_)).put (d := 266) (by decide) (by decide) (_)).put (d := 267) (by decide) (by decide) (.pointer (some ⟨gs, s * 3, none⟩))).put (d := 268) (by decide) (by decide) (.pointer (some ⟨gs, s * 3, none⟩))) ((List.range 15).map (· + 254)) (fun n h1 h2 => by simp only [List.mem_map, List.mem_range]; exact ⟨n - 254, by omega, by omega⟩)
  have hfin := hQ us _ _ _ _ _ q3 (upd_same _ _ _ _) (r3.other (by simp) _ _) (fun t ht h1 h2 => by rw [upd_other h1, upd_other h2, upd_other (ht 2)])
  rw [← hus] at hfin
  exact hfin
end Go.Proofs.Ybulkeaca.CW
