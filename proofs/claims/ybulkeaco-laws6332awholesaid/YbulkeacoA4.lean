import Derived.Test.YbulkeacoA3
import Derived.Lib.Strings
namespace Go.Proofs.Ybulkeaco.AW
open Go.RowKit Go.Proofs.Ybulkeaco.Kit

theorem ret2 {a b c d : Value} (h : a = c) (k : b = d) : Ending.returned (.tuple #[a, b]) = .returned (.tuple #[c, d]) := by rw [h, k]
theorem idx (s : ByteArray) (q : Nat) (h1 : ((q : Int) * 9).toNat < s.size) (h2 : q * 9 < s.size) : Value.int .u8 (s[((q : Int) * 9).toNat]'h1).toNat = Value.int .u8 (s[q * 9]'h2).toNat := by
  have : ((q : Int) * 9).toNat = q * 9 := by omega
  simp only [this]

set_option maxHeartbeats 2000000 in
theorem entry_any (s : ByteArray) (q : Nat) (w : World) (hq : 9 * (q + 1) ≤ s.size) (hs : s.size ≤ 9437184) :
    Calls Yba.prog 17 #[.string s, .int .i64 (q + 1)] w fun e w' => e = .returned (.tuple #[.int .u8 (s[q * 9]'(by omega)).toNat, .int .i64 (IntKind.i64.wrap (Lib.leNat ((s.data.toList.drop (q * 9 + 1)).take 8)))]) ∧ Keeps [] w w' := by
  have hcv := fun w s => run_bytes_of_string (P := Yba.prog) w 28 23 5 s Yba.underlying28 Yba.underlying23 Yba.underlying5
  have hsl : ∀ w, (Instr.slice 28 (.string s) (some (.int .i64 (q * 9 + 1))) (some (.int .i64 (q * 9 + 9))) none).run Yba.prog w = .ok (.string (s.extract (q * 9 + 1) (q * 9 + 9))) w := fun w => by
    rw [run_slice_string_if w 28 s .i64 .i64 _ _ Yba.underlying28, if_pos ⟨by omega, by omega⟩, if_pos ⟨by omega, by omega⟩]
    rw [show ((q : Int) * 9 + 1).toNat = q * 9 + 1 by omega, show ((q : Int) * 9 + 9).toNat = q * 9 + 9 by omega]
  have hx : (s.extract (q * 9 + 1) (q * 9 + 9)).size = 8 := by rw [ByteArray.size_extract]; omega
  generalize hX : s.extract (q * 9 + 1) (q * 9 + 9) = x at *
  have HX : Hid (s.extract (q * 9 + 1) (q * 9 + 9) = x) := hX
  clear hX
  obtain ⟨b0, b1, b2, b3, b4, b5, b6, b7, HL⟩ : ∃ b0 b1 b2 b3 b4 b5 b6 b7, Hid (x.data.toList = [b0, b1, b2, b3, b4, b5, b6, b7]) := len8 (by simpa using hx)
  have hcell : ∀ j (b : UInt8), [b0, b1, b2, b3, b4, b5, b6, b7][j]? = some b → ((w.alloc (Obj.cells (bytesRow x (grownCap w.drew 8 0 5)) 5 ((bytesRow x (grownCap w.drew 8 0 5)).size, (bytesRow x (grownCap w.drew 8 0 5)).size + 1))).drew.drew).cell? ⟨w.heap.size, j, none⟩ = some (.int .u8 b.toNat) := by
    intro j b hj
    rw [← HL.out] at hj
    show (w.alloc _).cell? _ = _
    rw [World.cell?_alloc_mark]
    unfold bytesRow
    have hj8 : j < x.data.size := by have := (List.getElem?_eq_some_iff.1 hj).1; simpa using this
    rw [Array.getElem?_append_left (by simpa using hj8)]
    simp at hj
    simp [hj]
  have hU := Uint_any w.heap.size 0 8 (grownCap w.drew 8 0 5) b0 b1 b2 b3 b4 b5 b6 b7 _ (Nat.le_refl _) (hcell 0 _ rfl) (hcell 1 _ rfl) (hcell 2 _ rfl) (hcell 3 _ rfl) (hcell 4 _ rfl) (hcell 5 _ rfl) (hcell 6 _ rfl) (hcell 7 _ rfl)
  clear hcell
  have HLN : Hid (Lib.leNat ((s.data.toList.drop (q * 9 + 1)).take 8) = Lib.leNat [b0, b1, b2, b3, b4, b5, b6, b7]) := by
    show _ = _
    rw [← HL.out, ← HX.out]
    rw [Lib.extract_data, show q * 9 + 9 - (q * 9 + 1) = 8 by omega]
  generalize Lib.leNat [b0, b1, b2, b3, b4, b5, b6, b7] = L at *
  have hb1 : (q : Int) * 9 + 9 ≤ (s.size : Int) := by omega
  have hb2 : 0 ≤ (q : Int) * 9 + 9 := by omega
  have hb3 : 0 ≤ (q : Int) * 9 + 1 := by omega
  have hb4 : (q : Int) * 9 + 1 ≤ (q : Int) * 9 + 9 := by omega
  have hb5 : (q : Int) * 9 < (s.size : Int) := by omega
  have hb6 : 0 ≤ (q : Int) * 9 := by omega
  have hw1 : IntKind.i64.wrap ((q : Int) * 9 + 1) = (q : Int) * 9 + 1 := by rw [IntKind.wrap_i64]; omega
  have hw9 : IntKind.i64.wrap ((q : Int) * 9 + 9) = (q : Int) * 9 + 9 := by rw [IntKind.wrap_i64]; omega
  go_enter Yba.func17, Yba.ntmps17
  go_wp2_with fail
  go_region_with (go_at_call 20; refine hU.mono ?_; rintro e w2 ⟨rfl, hk2⟩)
  all_goals go_wp2
  all_goals go_ret2
  all_goals
    refine ⟨ret2 (idx s q _ _) ?_, (((Keeps.refl _ _).alloc _).drew.drew).trans hk2⟩
    rw [HLN.out]
    rfl
end Go.Proofs.Ybulkeaco.AW
