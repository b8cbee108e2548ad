import Derived.Test.YbulkeafgG5
namespace Go.Proofs.Ybulkeafg.GW
open Go.RowKit Go.Proofs.Ybulkeafg.Kit
/-- What newSchedule leaves. -/
def Sched (w : World) (r wb : Nat) (mp sp tm : Option Addr) (e : Ending) (w' : World) : Prop :=
  ∃ sb c, e = .returned (.pointer (some ⟨sb, 0, none⟩)) ∧ w.heap.size ≤ sb ∧ w.heap.size ≤ c ∧ Row w' sb 56 [.string .empty, .int .i64 0, .pointer (some ⟨c, 0, none⟩)] ∧
    Row w' c 88 (coreCells (.iface 27 (.pointer (some ⟨r, 0, none⟩))) (.pointer mp) (.pointer sp) (.pointer tm) 16384 64 0 (.iface 24 (.pointer (some ⟨wb, 0, none⟩))) (.pointer mp)) ∧
    Row w' r 29 [.int .i64 1, .pointer (some ⟨wb, 0, none⟩)] ∧ Keeps [r] w w'
set_option maxRecDepth 100000 in
set_option maxHeartbeats 1000000 in
theorem newSchedule_first (r wb : Nat) (mp sp tm : Option Addr) (w : World) (hr : Row w r 29 [.int .i64 0, .pointer (some ⟨wb, 0, none⟩)]) : Calls Yba.prog 6 #[.agg #[.iface 27 (.pointer (some ⟨r, 0, none⟩)), .pointer mp, .pointer sp, .pointer tm]] w fun e w' => Sched w r wb mp sp tm e w' := by
  have hrl := hr.lt
  go_enter Yba.func6, Yba.ntmps6
  go_upto_region 2 with fail
  have ht := (Row.new w 36 [.iface 27 (.pointer (some ⟨r, 0, none⟩)), .pointer mp, .pointer sp, .pointer tm]).alloc (.cells (coreCells (.iface 27 (.pointer (some ⟨r, 0, none⟩))) (.pointer mp) (.pointer sp) (.pointer tm) 0 0 0 .nilIface (.pointer none)).toArray 88)
  have hc := Row.new' (w.alloc (.cells #[.iface 27 (.pointer (some ⟨r, 0, none⟩)), .pointer mp, .pointer sp, .pointer tm] 36)) 88 (coreCells (.iface 27 (.pointer (some ⟨r, 0, none⟩))) (.pointer mp) (.pointer sp) (.pointer tm) 0 0 0 .nilIface (.pointer none)) (n := w.heap.size + 1) (by simp)
  have hr1 := (hr.alloc (.cells #[.iface 27 (.pointer (some ⟨r, 0, none⟩)), .pointer mp, .pointer sp, .pointer tm] 36)).alloc (.cells (coreCells (.iface 27 (.pointer (some ⟨r, 0, none⟩))) (.pointer mp) (.pointer sp) (.pointer tm) 0 0 0 .nilIface (.pointer none)).toArray 88)
  have hk := ((Keeps.refl [] w).alloc (.cells #[.iface 27 (.pointer (some ⟨r, 0, none⟩)), .pointer mp, .pointer sp, .pointer tm] 36)).alloc (.cells (coreCells (.iface 27 (.pointer (some ⟨r, 0, none⟩))) (.pointer mp) (.pointer sp) (.pointer tm) 0 0 0 .nilIface (.pointer none)).toArray 88)
  generalize (w.alloc (.cells #[.iface 27 (.pointer (some ⟨r, 0, none⟩)), .pointer mp, .pointer sp, .pointer tm] 36)).alloc (.cells (coreCells (.iface 27 (.pointer (some ⟨r, 0, none⟩))) (.pointer mp) (.pointer sp) (.pointer tm) 0 0 0 .nilIface (.pointer none)).toArray 88) = w1 at *
  have hsw := spanWalk_first r wb mp (.pointer sp) (.pointer tm) w1.drew hr1.drew
  have c0 := ht.cell (i := 0) rfl
  have c1 := ht.cell (i := 1) rfl
  have c2 := ht.cell (i := 2) rfl
  have c3 := ht.cell (i := 3) rfl
  go_cut [3] (fun v wc => v = .pointer (some ⟨w.heap.size + 1, 0, none⟩) ∧ Row wc (w.heap.size + 1) 88 (coreCells (.iface 27 (.pointer (some ⟨r, 0, none⟩))) (.pointer mp) (.pointer sp) (.pointer tm) 16384 64 0 (.iface 24 (.pointer (some ⟨wb, 0, none⟩))) (.pointer mp)) ∧ Row wc r 29 [.int .i64 1, .pointer (some ⟨wb, 0, none⟩)] ∧ Keeps [r] w wc)
  case first =>
    go_region_with (first | (go_at_call 23; refine hsw.mono ?_; rintro e w2 ⟨rfl, hr2, hk2⟩; have hc2 := hc.drew.keeps hk2 (by simp; omega); have hst := start_any (w.heap.size + 1) _ _ _ _ 24 (.pointer (some ⟨wb, 0, none⟩)) mp w2 hc2) | (go_at_call 22; refine hst.mono ?_; rintro e w3 ⟨rfl, hc3, hk3⟩; have hr3 := hr2.keeps hk3 (by simp; omega)))
    all_goals (go_wp2_with fail; go_meet)
    all_goals exact ⟨rfl, hc3, hr3, ((hk.drew.mono (T := [r]) (by simp)).trans hk2).after hk3 (fun i a b => by simp at b; omega)⟩
  case rest =>
    obtain ⟨rfl, h1, h2, h3⟩ := hcut
    go_wp2_with fail
    go_ret
    exact ⟨_, _, rfl, h3.size, by omega, Row.new wc 56 _, h1.alloc _, h2.alloc _, h3.alloc _⟩
end Go.Proofs.Ybulkeafg.GW
