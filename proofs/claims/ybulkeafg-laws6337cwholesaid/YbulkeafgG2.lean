import Derived.Test.YbulkeafgG1
namespace Go.Proofs.Ybulkeafg.GW
open Go.RowKit Go.Proofs.Ybulkeafg.Kit

theorem Nat_and_hi (n : Nat) (h : n < 2 ^ 63) : n &&& 2 ^ 63 = 0 := by
  apply Nat.eq_of_testBit_eq
  intro i
  rw [Nat.testBit_and, Nat.testBit_two_pow]
  by_cases hi : 63 = i
  · subst hi; rw [Nat.testBit_lt_two_pow h]; simp
  · simp [hi]
theorem and_zero (x : Int) (h0 : 0 ≤ x) (h1 : x < 1073741824) : bits BinOp.and IntKind.u64 x 9223372036854775808 = 0 := by
  obtain ⟨n, rfl⟩ := Int.eq_ofNat_of_zero_le h0
  have hn : n < 2 ^ 63 := by omega
  have hb : (BitVec.ofInt 64 (n : Int) &&& BitVec.ofInt 64 9223372036854775808).toNat = 0 := by
    rw [BitVec.toNat_and, BitVec.toNat_ofInt, BitVec.toNat_ofInt, show ((9223372036854775808 : Int) % (2 ^ 64 : Nat)).toNat = 2 ^ 63 by decide, show ((n : Int) % (2 ^ 64 : Nat)).toNat = n by omega, Nat_and_hi n hn]
  show (IntKind.u64.wrap ((BitVec.ofInt 64 (n : Int) &&& BitVec.ofInt 64 9223372036854775808).toNat : Int)) = 0
  rw [hb]
  rfl
theorem or_zero (x : Int) (h0 : 0 ≤ x) (h1 : x < 1073741824) : bits BinOp.or IntKind.u64 0 x = x := by
  obtain ⟨n, rfl⟩ := Int.eq_ofNat_of_zero_le h0
  have hb : (BitVec.ofInt 64 0 ||| BitVec.ofInt 64 (n : Int)).toNat = n := by
    rw [BitVec.toNat_or, BitVec.toNat_ofInt, BitVec.toNat_ofInt, show ((n : Int) % (2 ^ 64 : Nat)).toNat = n by omega]
    simp
  show (IntKind.u64.wrap ((BitVec.ofInt 64 0 ||| BitVec.ofInt 64 (n : Int)).toNat : Int)) = n
  rw [hb]
  simp [IntKind.wrap, IntKind.bits, IntKind.signed]
  omega

set_option maxRecDepth 100000 in
theorem nsec_zero (p : Nat) (w : World) (hc : w.cell? ⟨p, 0, none⟩ = some (.int .u64 0)) : Calls Yba.prog 19 #[.pointer (some ⟨p, 0, none⟩)] w fun e w' => e = .returned (.int .i32 0) ∧ w = w' := by
  have hb : bits .and .u64 0 1073741823 = 0 := by decide
  go_enter Yba.func19, Yba.ntmps19
  go_wp2_with fail
  go_ret
  exact ⟨rfl, rfl⟩
set_option maxRecDepth 100000 in
theorem addSec_plain (p : Nat) (x d : Int) (w : World) (hr : Row w p 47 [.int .u64 x, .int .i64 0, .pointer none]) (hx : 0 ≤ x) (hx2 : x < 1073741824) (d1 : -9223372036854775808 ≤ d) (d2 : d ≤ 9223372036854775807) : Calls Yba.prog 20 #[.pointer (some ⟨p, 0, none⟩), .int .i64 d] w fun e w' => e = .returned (.tuple #[]) ∧ Row w' p 47 [.int .u64 x, .int .i64 d, .pointer none] ∧ Keeps [p] w w' := by
  have c0 := hr.cell (i := 0) rfl
  have c1 := hr.cell (i := 1) rfl
  have f1 := hr.free 1
  have hb := and_zero x hx hx2
  go_enter Yba.func20, Yba.ntmps20
  go_wp2_with fail
  refine bodyPost_end (results_none rfl _ _ _) rfl ?_
  exact ⟨rfl, hr.set 1 _, (Keeps.refl _ _).setCell (.inl (by simp)) _⟩

theorem results5 {W : World} {A : Nat} {x y z : Value} (hrow : Row W A 47 [x, y, z]) (tmps : Array Value) (h4 : tmps.getD 4 undef = .pointer (some ⟨A, 0, none⟩)) :
    (results Yba.f5 tmps).run Yba.prog W = .ok (.agg #[x, y, z]) W := by
  have hv := run_loadVar_row (P := Yba.prog) W A 47 47 #[x, y, z] (0, 0) _ hrow Yba.underlying47 rfl (by kernel_rfl)
  simp at h4
  simp [results, h4, asAddr, hv]

def TimeOut (w : World) (e : Ending) (w' : World) : Prop := ∃ X Y, e = .returned (.agg #[.int .u64 X, .int .i64 Y, .pointer none]) ∧ Keeps [] w w'

set_option maxRecDepth 100000 in
theorem add_any (d : Int) (w : World) (d1 : -9223372036854775808 ≤ d) (d2 : d ≤ 9223372036854775807) : Calls Yba.prog 5 #[.agg #[.int .u64 0, .int .i64 0, .pointer none], .int .i64 d] w fun e w' => TimeOut w e w' := by
  have r1 : -1000000000 < d.tmod 1000000000 := by have := Int.tmod_lt_of_pos (-d) (b := 1000000000) (by omega); rw [Int.neg_tmod] at this; omega
  have r2 : d.tmod 1000000000 < 1000000000 := Int.tmod_lt_of_pos d (by omega)
  have q0 := Int.tmod_add_mul_tdiv d 1000000000
  have q1 : -9223372037 ≤ d.tdiv 1000000000 := by omega
  have q2 : d.tdiv 1000000000 ≤ 9223372037 := by omega
  clear q0
  go_enter Yba.func5, Yba.ntmps5
  go_upto_region 2 with fail
  have hp := (Row.new w 47 [.int .u64 0, .int .i64 0, .pointer none]).alloc (.cells #[.int .u64 0, .int .i64 0, .pointer none] 47)
  have ho := Row.new' (w.alloc (.cells #[.int .u64 0, .int .i64 0, .pointer none] 47)) 47 [.int .u64 0, .int .i64 0, .pointer none] (n := w.heap.size + 1) (by simp)
  have hk := ((Keeps.refl [] w).alloc (.cells #[.int .u64 0, .int .i64 0, .pointer none] 47)).alloc (.cells #[.int .u64 0, .int .i64 0, .pointer none] 47)
  generalize (w.alloc (.cells #[.int .u64 0, .int .i64 0, .pointer none] 47)).alloc (.cells #[.int .u64 0, .int .i64 0, .pointer none] 47) = w1 at *
  have hc0 := hp.cell (i := 0) rfl
  have hns := nsec_zero w.heap.size w1 hc0
  go_upto_region 3 with (go_at_call 19; refine hns.mono ?_; rintro e w2 ⟨rfl, rfl⟩)
  clear hns
  generalize d.tdiv 1000000000 = q at *
  generalize d.tmod 1000000000 = r at *
  go_upto_if 16 with fail
  go_cut [5, 6] (fun a b wc => ∃ x n : Int, a = .int .i64 x ∧ b = .int .i32 n ∧ -9223372039 ≤ x ∧ x ≤ 9223372039 ∧ 0 ≤ n ∧ n < 1000000000 ∧ w1 = wc)
  case first =>
    by_cases hr : r < 0
    · go_wp2_with fail
      go_meet
      exact ⟨_, _, rfl, rfl, by omega, by omega, by omega, by omega, rfl⟩
    · go_wp2_with fail
      go_meet
      exact ⟨_, _, rfl, rfl, by omega, by omega, by omega, by omega, rfl⟩
  case rest =>
    obtain ⟨x, n, rfl, rfl, x1, x2, n1, n2, rfl⟩ := hcut
    have b1 : bits .andNot .u64 0 1073741823 = 0 := by decide
    have b2 := or_zero n n1 (by omega)
    have b3 := and_zero n n1 (by omega)
    have f0 := hp.free 0
    go_upto_region 10 with fail
    have hp2 : Row (w1.setCell ⟨w.heap.size, 0, none⟩ (.int .u64 n)) w.heap.size 47 [.int .u64 n, .int .i64 0, .pointer none] := hp.set 0 _
    have ho2 := ho.other (a := ⟨w.heap.size, 0, none⟩) (by simp) (.int .u64 n)
    have hk2 := hk.setCell (p := ⟨w.heap.size, 0, none⟩) (.inr (by simp)) (.int .u64 n)
    generalize w1.setCell ⟨w.heap.size, 0, none⟩ (.int .u64 n) = w2 at *
    have hq := addSec_plain w.heap.size n x w2 hp2 n1 (by omega) (by omega) (by omega)
    clear hp ho hk hc0 f0
    go_upto_region 11 with (go_at_call 20; refine hq.mono ?_; rintro e w3 ⟨rfl, hp3, hk3⟩)
    have ho3 := ho2.keeps hk3 (by simp)
    have hk4 := hk2.after hk3 (fun i a b => by simp at b; omega)
    have c0 := hp3.cell (i := 0) rfl
    have c1 := hp3.cell (i := 1) rfl
    have c2 := hp3.cell (i := 2) rfl
    have o0 := ho3.cell (i := 0) rfl
    have o1 := ho3.cell (i := 1) rfl
    have o2 := ho3.cell (i := 2) rfl
    have f0 := ho3.free 0
    have f1 := ho3.free 1
    have f2 := ho3.free 2
    clear hq hp2 ho2 hk2
    go_wp2_with fail
    refine bodyPost_ret (results5 (x := .int .u64 n) (y := .int .i64 x) (z := .pointer none) (((ho3.set 0 _).set 1 _).set 2 _) _ rfl) rfl ?_
    exact ⟨n, x, rfl, ((hk4.setCell (.inr (by simp)) _).setCell (.inr (by simp)) _).setCell (.inr (by simp)) _⟩
end Go.Proofs.Ybulkeafg.GW
