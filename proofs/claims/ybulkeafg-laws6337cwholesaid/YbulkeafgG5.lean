import Derived.Test.YbulkeafgG4
namespace Go.Proofs.Ybulkeafg.GW
open Go.RowKit Go.Proofs.Ybulkeafg.Kit
/-- A core, cell by cell: its terms, the ledger's numbers, its mutex's state, its walk. -/
abbrev coreCells (t0 t1 t2 t3 : Value) (dn sd st : Int) (a b : Value) : List Value := [t0, t1, t2, t3, .pointer none, .int .i64 dn, .int .i64 sd, .int .i32 st, .int .u32 0, a, b, .int .i64 0, .int .u64 0, .bool false, .slice none 0 0, .bool false, .slice none 0 0, .bool false, .slice none 0 0, .int .u64 0, .slice none 0 0, .bool false, .slice none 0 0, .slice none 0 0, .int .i64 0, .int .i64 0, .slice none 0 0, .int .i64 0]
theorem core_store {w w2 : World} {c : Nat} {t0 t1 t2 t3 a b x y : Value} {st : Int} (hc : Row w2 c 88 (coreCells t0 t1 t2 t3 0 0 st x y)) (hin : c ∈ [c] ∨ w.heap.size ≤ c) (hK : Keeps [c] w w2) :
    Row ((((((((((((((((((w2.setCell ⟨c, 9, none⟩ (a)).setCell ⟨c, 10, none⟩ (b)).setCell ⟨c, 11, none⟩ (.int .i64 0)).setCell ⟨c, 12, none⟩ (.int .u64 0)).setCell ⟨c, 13, none⟩ (.bool false)).setCell ⟨c, 14, none⟩ (.slice none 0 0)).setCell ⟨c, 15, none⟩ (.bool false)).setCell ⟨c, 16, none⟩ (.slice none 0 0)).setCell ⟨c, 17, none⟩ (.bool false)).setCell ⟨c, 18, none⟩ (.slice none 0 0)).setCell ⟨c, 19, none⟩ (.int .u64 0)).setCell ⟨c, 20, none⟩ (.slice none 0 0)).setCell ⟨c, 21, none⟩ (.bool false)).setCell ⟨c, 22, none⟩ (.slice none 0 0)).setCell ⟨c, 23, none⟩ (.slice none 0 0)).setCell ⟨c, 24, none⟩ (.int .i64 0)).setCell ⟨c, 5, none⟩ (.int .i64 16384)).setCell ⟨c, 6, none⟩ (.int .i64 64)) c 88 (coreCells t0 t1 t2 t3 16384 64 st a b) ∧ Keeps [c] w ((((((((((((((((((w2.setCell ⟨c, 9, none⟩ (a)).setCell ⟨c, 10, none⟩ (b)).setCell ⟨c, 11, none⟩ (.int .i64 0)).setCell ⟨c, 12, none⟩ (.int .u64 0)).setCell ⟨c, 13, none⟩ (.bool false)).setCell ⟨c, 14, none⟩ (.slice none 0 0)).setCell ⟨c, 15, none⟩ (.bool false)).setCell ⟨c, 16, none⟩ (.slice none 0 0)).setCell ⟨c, 17, none⟩ (.bool false)).setCell ⟨c, 18, none⟩ (.slice none 0 0)).setCell ⟨c, 19, none⟩ (.int .u64 0)).setCell ⟨c, 20, none⟩ (.slice none 0 0)).setCell ⟨c, 21, none⟩ (.bool false)).setCell ⟨c, 22, none⟩ (.slice none 0 0)).setCell ⟨c, 23, none⟩ (.slice none 0 0)).setCell ⟨c, 24, none⟩ (.int .i64 0)).setCell ⟨c, 5, none⟩ (.int .i64 16384)).setCell ⟨c, 6, none⟩ (.int .i64 64)) := by
  refine ⟨?_, ((((((((((((((((((hK.setCell hin _).setCell hin _).setCell hin _).setCell hin _).setCell hin _).setCell hin _).setCell hin _).setCell hin _).setCell hin _).setCell hin _).setCell hin _).setCell hin _).setCell hin _).setCell hin _).setCell hin _).setCell hin _).setCell hin _).setCell hin _)⟩
  have h := ((((((((((((((((((hc.set 9 (a)).set 10 (b)).set 11 (.int .i64 0)).set 12 (.int .u64 0)).set 13 (.bool false)).set 14 (.slice none 0 0)).set 15 (.bool false)).set 16 (.slice none 0 0)).set 17 (.bool false)).set 18 (.slice none 0 0)).set 19 (.int .u64 0)).set 20 (.slice none 0 0)).set 21 (.bool false)).set 22 (.slice none 0 0)).set 23 (.slice none 0 0)).set 24 (.int .i64 0)).set 5 (.int .i64 16384)).set 6 (.int .i64 64))
  simpa only [List.set_cons_zero, List.set_cons_succ] using h

set_option maxRecDepth 100000 in
set_option maxHeartbeats 1000000 in
theorem start_any (c : Nat) (t0 t1 t2 t3 : Value) (ty : TypeId) (iv : Value) (mp : Option Addr) (w : World) (hc : Row w c 88 (coreCells t0 t1 t2 t3 0 0 0 .nilIface (.pointer none))) : Calls Yba.prog 22 #[.pointer (some ⟨c, 4, none⟩), .agg (spanCells (.iface ty iv) (.pointer mp)).toArray, .int .i64 16384, .int .i64 64] w fun e w' => e = .returned (.tuple #[]) ∧ Row w' c 88 (coreCells t0 t1 t2 t3 16384 64 0 (.iface ty iv) (.pointer mp)) ∧ Keeps [c] w w' := by
  go_enter Yba.func22, Yba.ntmps22
  go_upto_region 1 with fail
  have hc1 := hc.alloc (.cells (spanCells (.iface ty iv) (.pointer mp)).toArray 83)
  have hn := Row.new w 83 (spanCells (.iface ty iv) (.pointer mp))
  have hk := (Keeps.refl [c] w).alloc (.cells (spanCells (.iface ty iv) (.pointer mp)).toArray 83)
  have hl := hc.lt
  clear hc
  generalize w.alloc (.cells (spanCells (.iface ty iv) (.pointer mp)).toArray 83) = w2 at *
  have k9 := hc1.cell (i := 9) rfl
  have k10 := hc1.cell (i := 10) rfl
  have k11 := hc1.cell (i := 11) rfl
  have k12 := hc1.cell (i := 12) rfl
  have k13 := hc1.cell (i := 13) rfl
  have k14 := hc1.cell (i := 14) rfl
  have k15 := hc1.cell (i := 15) rfl
  have k16 := hc1.cell (i := 16) rfl
  have k17 := hc1.cell (i := 17) rfl
  have k18 := hc1.cell (i := 18) rfl
  have k19 := hc1.cell (i := 19) rfl
  have k20 := hc1.cell (i := 20) rfl
  have k21 := hc1.cell (i := 21) rfl
  have k22 := hc1.cell (i := 22) rfl
  have k23 := hc1.cell (i := 23) rfl
  have k24 := hc1.cell (i := 24) rfl
  have k5 := hc1.cell (i := 5) rfl
  have k6 := hc1.cell (i := 6) rfl
  have n0 := hn.cell (i := 0) rfl
  have n1 := hn.cell (i := 1) rfl
  have n2 := hn.cell (i := 2) rfl
  have n3 := hn.cell (i := 3) rfl
  have n4 := hn.cell (i := 4) rfl
  have n5 := hn.cell (i := 5) rfl
  have n6 := hn.cell (i := 6) rfl
  have n7 := hn.cell (i := 7) rfl
  have n8 := hn.cell (i := 8) rfl
  have n9 := hn.cell (i := 9) rfl
  have n10 := hn.cell (i := 10) rfl
  have n11 := hn.cell (i := 11) rfl
  have n12 := hn.cell (i := 12) rfl
  have n13 := hn.cell (i := 13) rfl
  have n14 := hn.cell (i := 14) rfl
  have n15 := hn.cell (i := 15) rfl
  have fo := fun i => hc1.free i
  have si : ∀ (W : World) (b : Addr) (m : Mode) (t : TypeId) (v : Value), (store b (.iface t v) m).run Yba.prog W = stored Yba.prog W b (.iface t v) m := fun W b m t v => run_store Yba.prog W b _ m rfl
  go_wp2_with fail
  refine bodyPost_end (results_none rfl _ _ _) rfl ?_
  have hss := core_store (a := .iface ty iv) (b := .pointer mp) hc1 (.inl (by simp)) hk
  exact ⟨rfl, hss⟩
end Go.Proofs.Ybulkeafg.GW
