import Derived.Test.YbulkeacaK7
namespace Go.Proofs.Ybulkeaca.CW
open Go.RowKit Go.Proofs.Ybulkeaca.Kit
set_option linter.unusedSimpArgs false
noncomputable def R134 : Array Oper := opsAt Yba.f3 134
theorem sel134 : Region.noSelect R134 = true := by kernel_rfl

set_option maxRecDepth 100000 in
set_option maxHeartbeats 4000000 in
theorem region134 {Q : Exit → Act → World → Prop} {a : Act} {w0 w : World} {D : Desc} {M : Mod} {P pts : Nat → Nat} {mb lrb pb f : Nat} {z : Option Addr} {p : Int} {cs : List Value} (hsz : a.tmps.size = 761) (e6 : a.eval (.tmp 6) = .slice (some ⟨pb, 0, none⟩) 6 6) (e8 : a.eval (.tmp 8) = pt lrb) (e44 : a.eval (.tmp 44) = vi f) (hf : f < 6)
    (h : Holds w0 w D) (rd : RealD D M P pts mb) (hlr : D .lr = some (lrb, row cs 70)) (h19 : cs[19]? = some (.map (some mb))) (hpool : D .pool = some (pb, row (rowF 6 fun f => pt (P f)) 27))
    (hpos : 0 ≤ M.S f) (hval : stAt M pts f = .agg #[.pointer z, vi p])
    (hQ : ∀ us w' ab, Holds w0 w' (upd D (.x 7) ab (row [.pointer z, vi p] 90)) → Q .normal ((puts a us ((List.range 9).map (· + 731))).put (some 47) (pt ab)) w') :
    (Code.region 134 R134 true).wp Yba.prog Q a w := by
  obtain ⟨o0, ho0, hd0, hg0, hp0⟩ := op_at (ops := R134) (i := 0) (d := some 731) (p := .move (.tmp 8)) (by kernel_rfl)
  obtain ⟨o1, ho1, hd1, hg1, hp1⟩ := op_at (ops := R134) (i := 1) (d := some 732) (p := .nilCheck (.tmp 731)) (by kernel_rfl)
  obtain ⟨o2, ho2, hd2, hg2, hp2⟩ := op_at (ops := R134) (i := 2) (d := some 733) (p := .fieldAddr 70 (.tmp 732) 17) (by kernel_rfl)
  obtain ⟨o3, ho3, hd3, hg3, hp3⟩ := op_at (ops := R134) (i := 3) (d := some 734) (p := .load 53 (.tmp 733)) (by kernel_rfl)
  obtain ⟨o4, ho4, hd4, hg4, hp4⟩ := op_at (ops := R134) (i := 4) (d := some 735) (p := .move (.tmp 6)) (by kernel_rfl)
  obtain ⟨o5, ho5, hd5, hg5, hp5⟩ := op_at (ops := R134) (i := 5) (d := some 736) (p := .move (.tmp 44)) (by kernel_rfl)
  obtain ⟨o6, ho6, hd6, hg6, hp6⟩ := op_at (ops := R134) (i := 6) (d := some 737) (p := .indexAddr 26 (.tmp 735) (.tmp 736)) (by kernel_rfl)
  obtain ⟨o7, ho7, hd7, hg7, hp7⟩ := op_at (ops := R134) (i := 7) (d := some 738) (p := .load 27 (.tmp 737)) (by kernel_rfl)
  obtain ⟨o8, ho8, hd8, hg8, hp8⟩ := op_at (ops := R134) (i := 8) (d := some 739) (p := .lookup 53 (.tmp 734) (.tmp 738) false) (by kernel_rfl)
  obtain ⟨o9, ho9, hd9, hg9, hp9⟩ := op_at (ops := R134) (i := 9) (d := some 47) (p := .alloc 90) (by kernel_rfl)
  obtain ⟨o10, ho10, hd10, hg10, hp10⟩ := op_at (ops := R134) (i := 10) (d := none) (p := .store 90 (.tmp 47) (.tmp 739)) (by kernel_rfl)
  refine wp_region_noPanic ?_
  refine wp_region_K 10 (fun W => W.cell? ⟨lrb, 19, none⟩ = some (.map (some mb)) ∧ W.cell? ⟨pb, f, none⟩ = some (pt (P f)) ∧ (Instr.lookup 53 (.map (some mb)) (pt (P f)) false).run Yba.prog W = .ok (.agg #[.pointer z, vi p]) W) (by kernel_rfl) ?_
  have hT : ∀ W DD, Holds w0 W DD → (∀ t, (∀ m, t ≠ .x m) → DD t = D t) → (W.cell? ⟨lrb, 19, none⟩ = some (.map (some mb)) ∧ W.cell? ⟨pb, f, none⟩ = some (pt (P f)) ∧ (Instr.lookup 53 (.map (some mb)) (pt (P f)) false).run Yba.prog W = .ok (.agg #[.pointer z, vi p]) W) := fun W DD hW hd => ⟨hW.cell ((hd _ (by simp)).trans hlr) h19, hW.cell ((hd _ (by simp)).trans hpool) (rowF_get hf), by
    have hk := (rd.congr (D' := DD) (fun t ht => hd t (usedR_x ht))).look hW hf false
    rw [hk, if_pos hpos, hval]; simp⟩
  have hh := h.drew
  have hT0 := hT _ _ hh (fun _ _ => rfl)
  generalize w.drew = W at *
  rw [show R134.size = 11 by kernel_rfl]
  refine wpAnyK_any (v := pt lrb) ho0 hd0 hg0 sel134 (by kernel_rfl) (by kernel_rfl) rfl (fun _ _ _ h => h) (fun _ => hT0) (ex_move hp0 (by simp only [ev_same, ev_other, put_size, hsz, e6, e8, e44, ne_eq, Nat.reduceEqDiff, not_false_eq_true, Nat.reduceLT])) ?_
  refine wpAnyK_any (v := pt lrb) ho1 hd1 hg1 sel134 (by kernel_rfl) (by kernel_rfl) rfl (fun _ _ _ h => h) (fun _ => hT0) (ex_nil hp1 (by simp only [ev_same, ev_other, put_size, hsz, e6, e8, e44, ne_eq, Nat.reduceEqDiff, not_false_eq_true, Nat.reduceLT])) ?_
  refine wpAnyK_any (v := .pointer (some ⟨lrb, 19, none⟩)) ho2 hd2 hg2 sel134 (by kernel_rfl) (by kernel_rfl) rfl (fun _ _ _ h => h) (fun _ => hT0) (ex_f70_17 (b := lrb) (f := 0) hp2 (by simp only [ev_same, ev_other, put_size, hsz, e6, e8, e44, ne_eq, Nat.reduceEqDiff, not_false_eq_true, Nat.reduceLT])) ?_
  refine wpAnyK_held (v := .map (some mb)) ho3 hd3 hg3 sel134 (by kernel_rfl) (by kernel_rfl) rfl (by kernel_rfl) (by kernel_rfl) (fun _ _ _ h => h) hT0 (fun W' hx => ex_l53 (b := lrb) (f := 19) hp3 (by simp only [ev_same, ev_other, put_size, hsz, e6, e8, e44, ne_eq, Nat.reduceEqDiff, not_false_eq_true, Nat.reduceLT]) hx.1) ?_
  refine wpAnyK_any (v := .slice (some ⟨pb, 0, none⟩) 6 6) ho4 hd4 hg4 sel134 (by kernel_rfl) (by kernel_rfl) rfl (fun _ _ _ h => h) (fun _ => hT0) (ex_move hp4 (by simp only [ev_same, ev_other, put_size, hsz, e6, e8, e44, ne_eq, Nat.reduceEqDiff, not_false_eq_true, Nat.reduceLT])) ?_
  refine wpAnyK_any (v := vi f) ho5 hd5 hg5 sel134 (by kernel_rfl) (by kernel_rfl) rfl (fun _ _ _ h => h) (fun _ => hT0) (ex_move hp5 (by simp only [ev_same, ev_other, put_size, hsz, e6, e8, e44, ne_eq, Nat.reduceEqDiff, not_false_eq_true, Nat.reduceLT])) ?_
  refine wpAnyK_any (v := .pointer (some ⟨pb, f, none⟩)) ho6 hd6 hg6 sel134 (by kernel_rfl) (by kernel_rfl) rfl (fun _ _ _ h => h) (fun _ => hT0) (ex_i26 (b := pb) (n := 6) (c := 6) (k := f) hp6 (by simp only [ev_same, ev_other, put_size, hsz, e6, e8, e44, ne_eq, Nat.reduceEqDiff, not_false_eq_true, Nat.reduceLT]) (by simp only [ev_same, ev_other, put_size, hsz, e6, e8, e44, ne_eq, Nat.reduceEqDiff, not_false_eq_true, Nat.reduceLT]) (by omega)) ?_
  refine wpAnyK_held (v := pt (P f)) ho7 hd7 hg7 sel134 (by kernel_rfl) (by kernel_rfl) rfl (by kernel_rfl) (by kernel_rfl) (fun _ _ _ h => h) hT0 (fun W' hx => ex_l27 hp7 (by simp only [ev_same, ev_other, put_size, hsz, e6, e8, e44, ne_eq, Nat.reduceEqDiff, not_false_eq_true, Nat.reduceLT]) hx.2.1) ?_
  refine wpAnyK_held (v := .agg #[.pointer z, vi p]) ho8 hd8 hg8 sel134 (by kernel_rfl) (by kernel_rfl) rfl (by kernel_rfl) (by kernel_rfl) (fun _ _ _ h => h) hT0 (fun W' hx => ex_look hp8 (by simp only [ev_same, ev_other, put_size, hsz, e6, e8, e44, ne_eq, Nat.reduceEqDiff, not_false_eq_true, Nat.reduceLT]) (by simp only [ev_same, ev_other, put_size, hsz, e6, e8, e44, ne_eq, Nat.reduceEqDiff, not_false_eq_true, Nat.reduceLT]) hx.2.2) ?_
  have hb := hh.new (.x 7) (row [.pointer none, vi 0] 90)
  refine wpAnyK_1 (by kernel_rfl) (OneK.run ho9 hd9 hg9 (ex_al90 hp9 _) (fun _ => hT _ _ hb (fun t ht => upd_other (ht 7))) ?_)
  have q1 := (hb.set (upd_same _ _ _ _) 0 (.pointer z)).set (upd_same _ _ _ _) 1 (vi p)
  refine wpAnyK_1 (by kernel_rfl) (OneK.skip ho10 hd10 hg10 (ex_s90 (b := W.heap.size) (z := z) (p := p) hp10 (by simp only [ev_same, ev_other, put_size, hsz, e6, e8, e44, ne_eq, Nat.reduceEqDiff, not_false_eq_true, Nat.reduceLT]) (by simp only [ev_same, ev_other, put_size, hsz, e6, e8, e44, ne_eq, Nat.reduceEqDiff, not_false_eq_true, Nat.reduceLT]) (hb.cell (upd_same _ _ _ _) (i := 0) rfl) (hb.cell (upd_same _ _ _ _) (i := 1) rfl) (fun i => hb.free (upd_same _ _ _ _) i)) (fun e => absurd e (by decide)) ?_)
  refine wpAnyK_done (by kernel_rfl) ?_ _
  refine NoPanic.normal ?_
  obtain ⟨us, hus⟩ := Like.puts ((((((((((Like.refl a 731 739).put (d := 731) (by decide) (by decide) (pt lrb)).put (d := 732) (by decide) (by decide) (pt lrb)).put (d := 733) (by decide) (by decide) (.pointer (some ⟨lrb, 19, none⟩))).put (d := 734) (by decide) (by decide) (.map (some mb))).put (d := 735) (by decide) (by decide) (.slice (some ⟨pb, 0, none⟩) 6 6)).put (d := 736) (by decide) (by decide) (vi f)).put (d := 737) (by decide) (by decide) (.pointer (some ⟨pb, f, none⟩))).put (d := 738) (by decide) (by decide) (pt (P f))).put (d := 739) (by decide) (by decide) (.agg #[.pointer z, vi p])) ((List.range 9).map (· + 731)) (fun n h1 h2 => by simp only [List.mem_map, List.mem_range]; exact ⟨n - 731, by omega, by omega⟩)
  have e3 : upd (upd (upd D (.x 7) W.heap.size (row [.pointer none, vi 0] 90)) (.x 7) W.heap.size (row ([.pointer none, vi 0].set 0 (.pointer z)) 90)) (.x 7) W.heap.size (row (([.pointer none, vi 0].set 0 (.pointer z)).set 1 (vi p)) 90) = upd D (.x 7) W.heap.size (row [.pointer z, vi p] 90) := by
    funext t; by_cases e : t = .x 7
    · subst e; rw [upd_same, upd_same]; rfl
    · rw [upd_other e, upd_other e, upd_other e, upd_other e]
  rw [e3] at q1
  have hfin := hQ us _ _ q1
  rw [← hus] at hfin
  exact hfin
end Go.Proofs.Ybulkeaca.CW
