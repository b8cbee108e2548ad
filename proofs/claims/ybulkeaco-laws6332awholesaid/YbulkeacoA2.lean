import Derived.Test.YbulkeacoA1
import Derived.Stop.LaidErr
namespace Go.Proofs.Ybulkeaco.AW
open Go.RowKit Go.Proofs.Ybulkeaco.Kit

theorem le8 (v : Nat) (hv : v < 18446744073709551616) : Lib.byteCells (Lib.leBytes 8 v) = [Value.int .u8 ((v : Int) % 256), Value.int .u8 ((v : Int) / 256 % 256), Value.int .u8 ((v : Int) / 65536 % 256), Value.int .u8 ((v : Int) / 16777216 % 256),
    Value.int .u8 ((v : Int) / 4294967296 % 256), Value.int .u8 ((v : Int) / 1099511627776 % 256), Value.int .u8 ((v : Int) / 281474976710656 % 256), Value.int .u8 ((v : Int) / 72057594037927936)] := by
  simp only [Lib.leBytes, Lib.byteCells, List.map, Lib.toUInt8_mod, List.cons.injEq, Value.int.injEq, true_and, and_true]
  refine ⟨?_, ?_, ?_, ?_, ?_, ?_, ?_, ?_⟩ <;> omega

theorem Put_any (q t v : Nat) (V : Int) (hV : V = (v : Int)) (x0 x1 x2 x3 x4 x5 x6 x7 : Value) (w : World) (hv : v < 18446744073709551616) (h : Row w q t [x0, x1, x2, x3, x4, x5, x6, x7]) :
    Calls Yba.prog 10 #[.agg #[], .slice (some ⟨q, 0, none⟩) 8 8, .int .u64 V] w fun e w' => e = .returned (.tuple #[]) ∧ Row w' q t (Lib.byteCells (Lib.leBytes 8 v)) ∧ Keeps [q] w w' := by
  subst hV
  have hl := h.lt
  have c0 := h.cell (i := 0) rfl
  have c1 := h.cell (i := 1) rfl
  have c2 := h.cell (i := 2) rfl
  have c3 := h.cell (i := 3) rfl
  have c4 := h.cell (i := 4) rfl
  have c5 := h.cell (i := 5) rfl
  have c6 := h.cell (i := 6) rfl
  have c7 := h.cell (i := 7) rfl
  have f0 := h.free 0
  have f1 := h.free 1
  have f2 := h.free 2
  have f3 := h.free 3
  have f4 := h.free 4
  have f5 := h.free 5
  have f6 := h.free 6
  have f7 := h.free 7
  go_enter Yba.func10, Yba.ntmps10
  go_wp2
  go_end0
  refine ⟨rfl, ?_, (((((((((Keeps.refl _ _).setCell (.inl (by simp)) _).setCell (.inl (by simp)) _).setCell (.inl (by simp)) _).setCell (.inl (by simp)) _).setCell (.inl (by simp)) _).setCell (.inl (by simp)) _).setCell (.inl (by simp)) _).setCell (.inl (by simp)) _).alloc _⟩
  rw [le8 v hv]
  exact ((((((((h.set 0 _).set 1 _).set 2 _).set 3 _).set 4 _).set 5 _).set 6 _).set 7 _).alloc _

theorem Uint_any (g o n c : Nat) (b0 b1 b2 b3 b4 b5 b6 b7 : UInt8) (w : World) (hn : 8 ≤ n)
    (c0 : w.cell? ⟨g, o, none⟩ = some (.int .u8 b0.toNat)) (c1 : w.cell? ⟨g, o + 1, none⟩ = some (.int .u8 b1.toNat)) (c2 : w.cell? ⟨g, o + 2, none⟩ = some (.int .u8 b2.toNat)) (c3 : w.cell? ⟨g, o + 3, none⟩ = some (.int .u8 b3.toNat)) (c4 : w.cell? ⟨g, o + 4, none⟩ = some (.int .u8 b4.toNat)) (c5 : w.cell? ⟨g, o + 5, none⟩ = some (.int .u8 b5.toNat)) (c6 : w.cell? ⟨g, o + 6, none⟩ = some (.int .u8 b6.toNat)) (c7 : w.cell? ⟨g, o + 7, none⟩ = some (.int .u8 b7.toNat)) :
    Calls Yba.prog 20 #[.agg #[], .slice (some ⟨g, o, none⟩) n c] w fun e w' => e = .returned (.int .u64 (Lib.leNat [b0, b1, b2, b3, b4, b5, b6, b7])) ∧ Keeps [] w w' := by
  have d0 := cell?_alloc_old (.cells #[] 50) c0
  have h0 : b0.toNat < 256 := b0.toNat_lt
  have d1 := cell?_alloc_old (.cells #[] 50) c1
  have h1 : b1.toNat < 256 := b1.toNat_lt
  have d2 := cell?_alloc_old (.cells #[] 50) c2
  have h2 : b2.toNat < 256 := b2.toNat_lt
  have d3 := cell?_alloc_old (.cells #[] 50) c3
  have h3 : b3.toNat < 256 := b3.toNat_lt
  have d4 := cell?_alloc_old (.cells #[] 50) c4
  have h4 : b4.toNat < 256 := b4.toNat_lt
  have d5 := cell?_alloc_old (.cells #[] 50) c5
  have h5 : b5.toNat < 256 := b5.toNat_lt
  have d6 := cell?_alloc_old (.cells #[] 50) c6
  have h6 : b6.toNat < 256 := b6.toNat_lt
  have d7 := cell?_alloc_old (.cells #[] 50) c7
  have h7 : b7.toNat < 256 := b7.toNat_lt
  have hv : ((Lib.leNat [b0, b1, b2, b3, b4, b5, b6, b7] : Nat) : Int) = (b0.toNat : Int) + (b1.toNat : Int) * 256 + (b2.toNat : Int) * 65536 + (b3.toNat : Int) * 16777216 + (b4.toNat : Int) * 4294967296 + (b5.toNat : Int) * 1099511627776 + (b6.toNat : Int) * 281474976710656 + (b7.toNat : Int) * 72057594037927936 := by
    simp only [Lib.leNat]
    omega
  have q0 : 0 < n := by omega
  have q1 : (1 : Int) < (n : Int) := by omega
  have q2 : (2 : Int) < (n : Int) := by omega
  have q3 : (3 : Int) < (n : Int) := by omega
  have q4 : (4 : Int) < (n : Int) := by omega
  have q5 : (5 : Int) < (n : Int) := by omega
  have q6 : (6 : Int) < (n : Int) := by omega
  have q7 : (7 : Int) < (n : Int) := by omega
  have HV : Hid (((Lib.leNat [b0, b1, b2, b3, b4, b5, b6, b7] : Nat) : Int) = (b0.toNat : Int) + (b1.toNat : Int) * 256 + (b2.toNat : Int) * 65536 + (b3.toNat : Int) * 16777216 + (b4.toNat : Int) * 4294967296 + (b5.toNat : Int) * 1099511627776 + (b6.toNat : Int) * 281474976710656 + (b7.toNat : Int) * 72057594037927936) := hv
  clear hv
  go_enter Yba.func20, Yba.ntmps20
  go_wp2
  go_quiet (fail)
  go_wp2
  go_ret
  refine ⟨?_, ((Keeps.refl _ _).alloc _).drewN _⟩
  simp (disch := omega) only [u64_or8, u64_or16, u64_or24, u64_or32, u64_or40, u64_or48, u64_or56]
  rw [HV.out]
  rfl

end Go.Proofs.Ybulkeaco.AW
