import Derived.Test.YbulkeacoA4
namespace Go.Proofs.Ybulkeaco.AW
open Go.RowKit Go.Proofs.Ybulkeaco.Kit

theorem Entry_any (s : ByteArray) (q : Nat) (v : Int) (ok : Bool) (w : World) (hq : 9 * (q + 1) ≤ s.size) (hs : s.size ≤ 9437184) (hk : ((s[q * 9]'(by omega)).toNat : Int) = if ok then 1 else 0) (hv : IntKind.i64.wrap (Lib.leNat ((s.data.toList.drop (q * 9 + 1)).take 8)) = v) :
    Calls Yba.prog 14 #[.agg #[.string s], .int .i64 (q + 1)] w fun e w' => e = .returned (.tuple #[.int .i64 v, .bool ok]) ∧ Keeps [] w w' := by
  have hE := entry_any s q (w.alloc (.cells #[.string s] 30)) hq hs
  rw [hk, hv] at hE
  clear hk hv
  cases ok
  · go_enter Yba.func14, Yba.ntmps14
    go_wp2_with (go_at_call 17; refine hE.mono ?_; rintro e w2 ⟨rfl, hk2⟩)
    go_ret2
    exact ⟨rfl, ((Keeps.refl _ _).alloc _).trans hk2⟩
  · go_enter Yba.func14, Yba.ntmps14
    go_wp2_with (go_at_call 17; refine hE.mono ?_; rintro e w2 ⟨rfl, hk2⟩)
    go_ret2
    exact ⟨rfl, ((Keeps.refl _ _).alloc _).trans hk2⟩

/-! ### what NewVector wrote, read again -/
theorem vecB_drop (os : List (Int × Bool)) (q : Nat) (h : q < os.length) : (vecB os).drop (q * 9) = entB os[q] ++ vecB (os.drop (q + 1)) := by
  induction os generalizing q with
  | nil => simp at h
  | cons o os ih =>
    match q with
    | 0 => simp [vecB]
    | q + 1 =>
      have := ih q (by simpa using h)
      rw [show (q + 1) * 9 = (entB o).length + q * 9 by rw [entB_length]; omega]
      simp only [vecB, List.flatMap_cons] at this ⊢
      rw [List.drop_append, List.drop_eq_nil_of_le (by omega), List.nil_append, show (entB o).length + q * 9 - (entB o).length = q * 9 by omega, this]
      simp
theorem kind_at (os : List (Int × Bool)) (q : Nat) (h : q < os.length) (hb : q * 9 < (⟨(vecB os).toArray⟩ : ByteArray).size) : (((⟨(vecB os).toArray⟩ : ByteArray)[q * 9]'hb).toNat : Int) = if os[q].2 then 1 else 0 := by
  have hd := vecB_drop os q h
  have hl : q * 9 < (vecB os).length := by rw [vecB_length]; omega
  have e : (⟨(vecB os).toArray⟩ : ByteArray)[q * 9]'hb = (vecB os)[q * 9] := by simp [ByteArray.getElem_eq_getElem_data]
  rw [e]
  have e2 : (vecB os)[q * 9] = if os[q].2 then 1 else 0 := by
    have := congrArg (fun l => l[0]?) hd
    simp [entB, hl] at this
    exact this
  rw [e2]; split <;> rfl
theorem val_at (os : List (Int × Bool)) (q : Nat) (h : q < os.length) (h1 : -9223372036854775808 ≤ os[q].1 ∧ os[q].1 ≤ 9223372036854775807) (h2 : os[q].2 = false → os[q].1 = 0) :
    IntKind.i64.wrap (Lib.leNat (((⟨(vecB os).toArray⟩ : ByteArray).data.toList.drop (q * 9 + 1)).take 8)) = os[q].1 := by
  have hd := vecB_drop os q h
  have e : (((⟨(vecB os).toArray⟩ : ByteArray).data.toList.drop (q * 9 + 1)).take 8) = Lib.leBytes 8 (IntKind.u64.wrap os[q].1).toNat := by
    show ((vecB os).drop (q * 9 + 1)).take 8 = _
    rw [← List.drop_drop, hd, entB]
    simp only [List.cons_append, List.drop_succ_cons, List.drop_zero]
    rw [List.take_append_of_le_length (by rw [Lib.leBytes_length]; omega), List.take_of_length_le (by rw [Lib.leBytes_length]; omega)]
    by_cases ho : os[q].2
    · simp [ho]
    · simp [ho, h2 (by simpa using ho)]
  have hu := u64_toNat os[q].1
  rw [e, Lib.leNat_leBytes 8 _ (by have := hu.2; omega), ← hu.1]
  have e3 : IntKind.u64.wrap os[q].1 = os[q].1 % 18446744073709551616 := by simp [IntKind.wrap, IntKind.bits, IntKind.signed]
  rw [e3, IntKind.wrap_i64]; omega
end Go.Proofs.Ybulkeaco.AW
