import Derived.Test.YbulkeafgG1
namespace Go.Proofs.Ybulkeafg.GW
open Go.RowKit Go.Proofs.Ybulkeafg.Kit

set_option maxRecDepth 100000 in
theorem walk_first (r wb : Nat) (w : World) (hr : Row w r 29 [.int .i64 0, .pointer (some ⟨wb, 0, none⟩)]) : Calls Yba.prog 54 #[.pointer (some ⟨r, 0, none⟩)] w fun e w' => e = .returned (.iface 24 (.pointer (some ⟨wb, 0, none⟩))) ∧ Row w' r 29 [.int .i64 1, .pointer (some ⟨wb, 0, none⟩)] ∧ Keeps [r] w w' := by
  have c0 := hr.cell (i := 0) rfl
  have c1 := hr.cell (i := 1) rfl
  have f0 := hr.free 0
  go_enter Yba.func54, Yba.ntmps54
  go_wp2_with fail
  go_ret
  exact ⟨rfl, hr.set 0 _, (Keeps.refl _ _).setCell (.inl (by simp)) _⟩
/-- A spanWalk as it is made: its first two cells, and nothing else set. -/
abbrev spanCells (st ms : Value) : List Value := [st, ms, .int .i64 0, .int .u64 0, .bool false, .slice none 0 0, .bool false, .slice none 0 0, .bool false, .slice none 0 0, .int .u64 0, .slice none 0 0, .bool false, .slice none 0 0, .slice none 0 0, .int .i64 0]
theorem upon_walk {o : Oper} {a : Act} {K : Act → World → Prop} {Q : Exit → Act → World → Prop} {f : Nat} {v : Value} {nm : String} {w : World} {g : FuncId × Value → World → Result Next} (hm : Sem.run Yba.prog (method f 27 v nm) w = .ok (54, v) w) (h : Oper.upon Yba.prog o a K Q (g (54, v) w)) :
    Oper.upon Yba.prog o a K Q ((Sem.run Yba.prog (method f 27 v nm) w).andThen g) := by rw [hm]; exact h
theorem span_store {w w2 : World} {p r : Nat} {a b x y : Value} {cs : List Value} (ho2 : Row w2 p 83 (spanCells x y)) (hr2 : Row w2 r 29 cs) (hne : r ≠ p) (hin : p ∈ [r] ∨ w.heap.size ≤ p) (hK : Keeps [r] w w2) :
    Row ((((((((((((((((w2.setCell ⟨p, 0, none⟩ (a)).setCell ⟨p, 1, none⟩ (b)).setCell ⟨p, 2, none⟩ (.int .i64 0)).setCell ⟨p, 3, none⟩ (.int .u64 0)).setCell ⟨p, 4, none⟩ (.bool false)).setCell ⟨p, 5, none⟩ (.slice none 0 0)).setCell ⟨p, 6, none⟩ (.bool false)).setCell ⟨p, 7, none⟩ (.slice none 0 0)).setCell ⟨p, 8, none⟩ (.bool false)).setCell ⟨p, 9, none⟩ (.slice none 0 0)).setCell ⟨p, 10, none⟩ (.int .u64 0)).setCell ⟨p, 11, none⟩ (.slice none 0 0)).setCell ⟨p, 12, none⟩ (.bool false)).setCell ⟨p, 13, none⟩ (.slice none 0 0)).setCell ⟨p, 14, none⟩ (.slice none 0 0)).setCell ⟨p, 15, none⟩ (.int .i64 0)) p 83 (spanCells a b) ∧ Row ((((((((((((((((w2.setCell ⟨p, 0, none⟩ (a)).setCell ⟨p, 1, none⟩ (b)).setCell ⟨p, 2, none⟩ (.int .i64 0)).setCell ⟨p, 3, none⟩ (.int .u64 0)).setCell ⟨p, 4, none⟩ (.bool false)).setCell ⟨p, 5, none⟩ (.slice none 0 0)).setCell ⟨p, 6, none⟩ (.bool false)).setCell ⟨p, 7, none⟩ (.slice none 0 0)).setCell ⟨p, 8, none⟩ (.bool false)).setCell ⟨p, 9, none⟩ (.slice none 0 0)).setCell ⟨p, 10, none⟩ (.int .u64 0)).setCell ⟨p, 11, none⟩ (.slice none 0 0)).setCell ⟨p, 12, none⟩ (.bool false)).setCell ⟨p, 13, none⟩ (.slice none 0 0)).setCell ⟨p, 14, none⟩ (.slice none 0 0)).setCell ⟨p, 15, none⟩ (.int .i64 0)) r 29 cs ∧ Keeps [r] w ((((((((((((((((w2.setCell ⟨p, 0, none⟩ (a)).setCell ⟨p, 1, none⟩ (b)).setCell ⟨p, 2, none⟩ (.int .i64 0)).setCell ⟨p, 3, none⟩ (.int .u64 0)).setCell ⟨p, 4, none⟩ (.bool false)).setCell ⟨p, 5, none⟩ (.slice none 0 0)).setCell ⟨p, 6, none⟩ (.bool false)).setCell ⟨p, 7, none⟩ (.slice none 0 0)).setCell ⟨p, 8, none⟩ (.bool false)).setCell ⟨p, 9, none⟩ (.slice none 0 0)).setCell ⟨p, 10, none⟩ (.int .u64 0)).setCell ⟨p, 11, none⟩ (.slice none 0 0)).setCell ⟨p, 12, none⟩ (.bool false)).setCell ⟨p, 13, none⟩ (.slice none 0 0)).setCell ⟨p, 14, none⟩ (.slice none 0 0)).setCell ⟨p, 15, none⟩ (.int .i64 0)) := by
  refine ⟨?_, ((((((((((((((((hr2.other hne _).other hne _).other hne _).other hne _).other hne _).other hne _).other hne _).other hne _).other hne _).other hne _).other hne _).other hne _).other hne _).other hne _).other hne _).other hne _), ((((((((((((((((hK.setCell hin _).setCell hin _).setCell hin _).setCell hin _).setCell hin _).setCell hin _).setCell hin _).setCell hin _).setCell hin _).setCell hin _).setCell hin _).setCell hin _).setCell hin _).setCell hin _).setCell hin _).setCell hin _)⟩
  have h := ((((((((((((((((ho2.set 0 (a)).set 1 (b)).set 2 (.int .i64 0)).set 3 (.int .u64 0)).set 4 (.bool false)).set 5 (.slice none 0 0)).set 6 (.bool false)).set 7 (.slice none 0 0)).set 8 (.bool false)).set 9 (.slice none 0 0)).set 10 (.int .u64 0)).set 11 (.slice none 0 0)).set 12 (.bool false)).set 13 (.slice none 0 0)).set 14 (.slice none 0 0)).set 15 (.int .i64 0))
  simpa only [List.set_cons_zero, List.set_cons_succ] using h
theorem results23 {W : World} {A : Nat} {x y : Value} (hrow : Row W A 83 (spanCells x y)) (tmps : Array Value) (h4 : tmps.getD 2 undef = .pointer (some ⟨A, 0, none⟩)) :
    (results Yba.f23 tmps).run Yba.prog W = .ok (.agg (spanCells x y).toArray) W := by
  have hv := run_loadVar_row (P := Yba.prog) W A 83 83 (spanCells x y).toArray (0, 0) _ hrow Yba.underlying83 rfl (by kernel_rfl)
  simp at h4
  simp [results, h4, asAddr, hv]
set_option maxRecDepth 100000 in
theorem spanWalk_first (r wb : Nat) (mp : Option Addr) (sp tm : Value) (w : World) (hr : Row w r 29 [.int .i64 0, .pointer (some ⟨wb, 0, none⟩)]) : Calls Yba.prog 23 #[.agg #[.iface 27 (.pointer (some ⟨r, 0, none⟩)), .pointer mp, sp, tm]] w fun e w' => e = .returned (.agg (spanCells (.iface 24 (.pointer (some ⟨wb, 0, none⟩))) (.pointer mp)).toArray) ∧ Row w' r 29 [.int .i64 1, .pointer (some ⟨wb, 0, none⟩)] ∧ Keeps [r] w w' := by
  have hrl := hr.lt
  go_enter Yba.func23, Yba.ntmps23
  go_upto_region 1 with fail
  have ht := (Row.new w 36 [.iface 27 (.pointer (some ⟨r, 0, none⟩)), .pointer mp, sp, tm]).alloc (.cells (spanCells .nilIface (.pointer none)).toArray 83)
  have ho := Row.new' (w.alloc (.cells #[.iface 27 (.pointer (some ⟨r, 0, none⟩)), .pointer mp, sp, tm] 36)) 83 (spanCells .nilIface (.pointer none)) (n := w.heap.size + 1) (by simp)
  have hr1 := (hr.alloc (.cells #[.iface 27 (.pointer (some ⟨r, 0, none⟩)), .pointer mp, sp, tm] 36)).alloc (.cells (spanCells .nilIface (.pointer none)).toArray 83)
  have hk := ((Keeps.refl [] w).alloc (.cells #[.iface 27 (.pointer (some ⟨r, 0, none⟩)), .pointer mp, sp, tm] 36)).alloc (.cells (spanCells .nilIface (.pointer none)).toArray 83)
  generalize (w.alloc (.cells #[.iface 27 (.pointer (some ⟨r, 0, none⟩)), .pointer mp, sp, tm] 36)).alloc (.cells (spanCells .nilIface (.pointer none)).toArray 83) = w1 at *
  have hw := walk_first r wb w1.drew hr1.drew
  have c0 := ht.cell (i := 0) rfl
  have c1 := ht.cell (i := 1) rfl
  have si : ∀ (W : World) (b : Addr) (m : Mode) (t : TypeId) (v : Value), (store b (.iface t v) m).run Yba.prog W = stored Yba.prog W b (.iface t v) m := fun W b m t v => run_store Yba.prog W b _ m rfl
  go_cut [2] (fun v wc => v = .pointer (some ⟨w.heap.size + 1, 0, none⟩) ∧ Row wc (w.heap.size + 1) 83 (spanCells (.iface 24 (.pointer (some ⟨wb, 0, none⟩))) (.pointer mp)) ∧ Row wc r 29 [.int .i64 1, .pointer (some ⟨wb, 0, none⟩)] ∧ Keeps [r] w wc)
  case first =>
    go_region_with (first | (refine upon_walk (by kernel_rfl) ?_) | (go_at_call 54; refine hw.mono ?_; rintro e w2 ⟨rfl, hr2, hk2⟩; have ho2 := ho.drew.keeps hk2 (by simp; omega); have ht2 := ht.drew.keeps hk2 (by simp; omega); have e1 := ht2.cell (i := 1) rfl; have fo := fun i => ho2.free i; have k0 := ho2.cell (i := 0) rfl; have k1 := ho2.cell (i := 1) rfl; have k2 := ho2.cell (i := 2) rfl; have k3 := ho2.cell (i := 3) rfl; have k4 := ho2.cell (i := 4) rfl; have k5 := ho2.cell (i := 5) rfl; have k6 := ho2.cell (i := 6) rfl; have k7 := ho2.cell (i := 7) rfl; have k8 := ho2.cell (i := 8) rfl; have k9 := ho2.cell (i := 9) rfl; have k10 := ho2.cell (i := 10) rfl; have k11 := ho2.cell (i := 11) rfl; have k12 := ho2.cell (i := 12) rfl; have k13 := ho2.cell (i := 13) rfl; have k14 := ho2.cell (i := 14) rfl; have k15 := ho2.cell (i := 15) rfl))
    all_goals (go_wp2_with fail; go_meet)
    all_goals
      have hne : r ≠ w.heap.size + 1 := by omega
      have hin : (w.heap.size + 1) ∈ [r] ∨ w.heap.size ≤ w.heap.size + 1 := .inr (by omega)
      have hK := (hk.drew.mono (T := [r]) (by simp)).trans hk2
      have hss := span_store (a := .iface 24 (.pointer (some ⟨wb, 0, none⟩))) (b := .pointer mp) ho2 hr2 hne hin hK
      exact ⟨rfl, hss⟩
  case rest =>
    obtain ⟨rfl, h1, h2, h3⟩ := hcut
    go_wp2_with fail
    refine bodyPost_ret (results23 h1 _ rfl) rfl ?_
    exact ⟨rfl, h2, h3⟩
end Go.Proofs.Ybulkeafg.GW
