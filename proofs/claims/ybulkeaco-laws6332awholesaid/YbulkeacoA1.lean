import Derived.Test.YbulkeacoRows
import Derived.Test.YbulkeacoKeep
import Derived.Lib.Builder
import Derived.Lib.MakeNoZero
import Derived.Lib.Endian
import Derived.Lib.EndianBits
import Derived.Laws.Externs
import Derived.Deep.RegionWith
namespace Go.Proofs.Ybulkeaco.AW
open Go.RowKit Go.Proofs.Ybulkeaco.Kit

theorem sizeBuilder : (Yba.prog.info? 45).map (·.size) = some 2 := by kernel_rfl
theorem infoByte : (Yba.prog.info? 5).map (fun i => (i.zero, i.size, i.bytes)) = some (some (.int .u8 0), 1, 1) := by kernel_rfl
theorem sizeByte : (Yba.prog.info? 5).map (·.size) = some 1 := by kernel_rfl
theorem cellsByte : Yba.prog.cellsOf 5 = 1 := by kernel_rfl
theorem liesBuilder : liesAt Yba.prog Yba.prog.depth 45 (2 / Yba.prog.cellsOf 45) 0 45 1 = true := by kernel_rfl

def bsl (b : Nat) (v : Value) : List Value := [.pointer (some ⟨b, 0, none⟩), v]

theorem copyCheck_used (b : Nat) (v : Value) (w : World) (h : Row w b 45 (bsl b v)) :
    Calls Yba.prog 15 #[.pointer (some ⟨b, 0, none⟩)] w fun e w' => e = .returned (.tuple #[]) ∧ w = w' := by
  obtain ⟨j, hj, _⟩ := Option.map_eq_some_iff.1 sizeBuilder
  have h0 := h.cell (i := 0) rfl
  go_enter Yba.func15, Yba.ntmps15
  go_wp2
  rw [Lib.run_neq_ptr_same w _ Yba.underlying43 hj]
  go_wp2
  go_end0
  exact ⟨rfl, rfl⟩

theorem copyCheck_fresh (b : Nat) (v : Value) (w : World) (h : Row w b 45 [.pointer none, v]) :
    Calls Yba.prog 15 #[.pointer (some ⟨b, 0, none⟩)] w fun e w' => e = .returned (.tuple #[]) ∧ Row w' b 45 (bsl b v) ∧ Keeps [b] w w' := by
  obtain ⟨j, hj, hjs⟩ := Option.map_eq_some_iff.1 sizeBuilder
  have h0 := h.cell (i := 0) rfl
  have hfz := h.free 0
  have hsh : w.shape? b = some (45, 2) := by unfold Row at h; simp [World.shape?, h]
  go_enter Yba.func15, Yba.ntmps15
  go_wp2
  rw [Lib.run_to_unsafe w ⟨b, 0, none⟩ Yba.underlying43 Yba.underlying63 hj (by rw [hjs]; decide) hsh (Nat.zero_lt_succ 1)]
  simp only [Result.andThen]
  rw [Oper.upon_value]
  go_wp2
  rw [run_callFunc_extern Yba.func18 (by kernel_rfl) (by kernel_rfl) (by kernel_rfl) (e := Extern.AbiNoEscape.same) (by kernel_rfl)]
  rw [Lib.run_noEscape]
  simp only [Result.andThen]
  rw [Oper.upon_value]
  go_wp2
  rw [Lib.run_from_unsafe w ⟨b, 0, none⟩ Yba.underlying63 Yba.underlying43 hj hsh liesBuilder]
  simp only [Result.andThen]
  rw [Oper.upon_value]
  go_wp2
  go_end0
  refine ⟨rfl, h.set 0 _, (Keeps.refl _ _).setCell (.inl (by simp)) _⟩

/-- grow at a builder without a buffer. -/
theorem grow_fresh (b m : Nat) (w : World) (h : Row w b 45 (bsl b (.slice none 0 0))) (hm : m ≤ 281474976710656) :
    Calls Yba.prog 16 #[.pointer (some ⟨b, 0, none⟩), .int .i64 m] w fun e w' => e = .returned (.tuple #[]) ∧
      ∃ g cs, Row w' b 45 (bsl b (.slice (some ⟨g, 0, none⟩) 0 cs.length)) ∧ Row w' g 5 cs ∧ m ≤ cs.length ∧ cs.length ≤ maxLen ∧ w.heap.size ≤ g ∧ Keeps [b] w w' := by
  obtain ⟨cs, hrun, hle, hmax⟩ := Lib.run_makeNoZero (P := Yba.prog) w.drew #[3] 23 5 Yba.underlying23 m hm
  have hcall : (callFunc 19 #[.int .i64 m]).run Yba.prog w.drew = .ok (.value (.slice (some ⟨w.drew.heap.size, 0, none⟩) m cs.size)) (w.drew.drew.drew.alloc (.cells cs 5)) := by
    rw [run_callFunc_extern Yba.func19 (by kernel_rfl) (by kernel_rfl) (by kernel_rfl) (e := Extern.BytealgMakeNoZero.makeNoZero #[3] #[23]) (by kernel_rfl), hrun]
    rfl
  have c1 := h.drew.cell (i := 1) rfl
  have c2 := (h.alloc (.cells cs 5)).cell (i := 1) rfl
  have f2 := (h.alloc (.cells cs 5)).free 1
  have hcopy : ∀ W : World, (Builtin.copy_ #[23, 23] 3 #[.slice (some ⟨w.heap.size, 0, none⟩) 0 cs.size, .slice none 0 0]).run Yba.prog W = .ok (goInt 0) W :=
    fun W => run_copy_none W 23 23 3 5 _ _ 0 cs.size 0 0 Yba.underlying23 sizeByte rfl
  have hlt := h.lt
  have hfin : Row ((w.setCell ⟨b, 1, none⟩ (.slice (some ⟨w.heap.size, 0, none⟩) 0 cs.size)).alloc (.cells cs 5)) b 45 (bsl b (.slice (some ⟨w.heap.size, 0, none⟩) 0 cs.size)) := (h.set 1 _).alloc _
  have hfin2 : Row ((w.setCell ⟨b, 1, none⟩ (.slice (some ⟨w.heap.size, 0, none⟩) 0 cs.size)).alloc (.cells cs 5)) w.heap.size 5 cs.toList := by
    have := Row.new (w.setCell ⟨b, 1, none⟩ (.slice (some ⟨w.heap.size, 0, none⟩) 0 cs.size)) 5 cs.toList
    simpa using this
  have hk : Keeps [b] w ((w.setCell ⟨b, 1, none⟩ (.slice (some ⟨w.heap.size, 0, none⟩) 0 cs.size)).alloc (.cells cs 5)) := ((Keeps.refl _ _).setCell (.inl (by simp)) _).alloc _
  clear hrun
  go_enter Yba.func16, Yba.ntmps16
  go_wp2
  go_region
  all_goals (go_wp2; go_end0; refine ⟨rfl, w.heap.size, cs.toList, ?_, hfin2.drew.drew.drew, by simpa using hle, by simpa using hmax (by unfold maxLen; omega), Nat.le_refl _, hk.drew.drew.drew⟩; rw [Array.length_toList]; exact hfin.drew.drew.drew)


theorem Grow_fresh (b m : Nat) (w : World) (h : Row w b 45 [.pointer none, .slice none 0 0]) (hm : m ≤ 281474976710656) (h0 : 0 < m) :
    Calls Yba.prog 9 #[.pointer (some ⟨b, 0, none⟩), .int .i64 m] w fun e w' => e = .returned (.tuple #[]) ∧
      ∃ g cs, Row w' b 45 (bsl b (.slice (some ⟨g, 0, none⟩) 0 cs.length)) ∧ Row w' g 5 cs ∧ m ≤ cs.length ∧ cs.length ≤ maxLen ∧ w.heap.size ≤ g ∧ Keeps [b] w w' := by
  go_enter Yba.func9, Yba.ntmps9
  go_wp2_with (go_at_call 15; refine (copyCheck_fresh b _ _ h).mono ?_)
  rintro e w1 ⟨rfl, h1, hk1⟩
  have c1 := h1.cell (i := 1) rfl
  go_wp2
  go_quiet (fail)
  go_wp2_with (go_at_call 16; refine (grow_fresh b m _ (h1.drewN _) hm).mono ?_)
  rintro e w2 ⟨rfl, g, cs, r1, r2, r3, r4, r5, r6⟩
  go_wp2
  go_end0
  exact ⟨rfl, g, cs, r1, r2, r3, r4, Nat.le_trans hk1.size r5, (hk1.drewN _).trans r6⟩

theorem Grow_zero (b : Nat) (w : World) (h : Row w b 45 [.pointer none, .slice none 0 0]) :
    Calls Yba.prog 9 #[.pointer (some ⟨b, 0, none⟩), .int .i64 0] w fun e w' => e = .returned (.tuple #[]) ∧ Row w' b 45 (bsl b (.slice none 0 0)) ∧ Keeps [b] w w' := by
  go_enter Yba.func9, Yba.ntmps9
  go_wp2_with (go_at_call 15; refine (copyCheck_fresh b _ _ h).mono ?_)
  rintro e w1 ⟨rfl, h1, hk1⟩
  have c1 := h1.cell (i := 1) rfl
  go_wp2
  go_quiet (fail)
  go_wp2
  go_end0
  exact ⟨rfl, h1.drewN _, hk1.drewN _⟩

theorem keep_mid {α : Type} (pre rest news : List α) : (pre ++ rest).take (pre.length * 1) ++ news ++ (pre ++ rest).drop (pre.length * 1 + news.length) = pre ++ news ++ rest.drop news.length := by
  rw [Nat.mul_one, List.take_left, List.drop_append, List.drop_eq_nil_of_le (by omega), List.nil_append, show pre.length + news.length - pre.length = news.length by omega]

theorem WriteByte_any (b g cap : Nat) (pre rest : List Value) (c : Int) (w : World) (h : Row w b 45 (bsl b (.slice (some ⟨g, 0, none⟩) pre.length cap))) (hg : Row w g 5 (pre ++ rest)) (hc : pre.length + rest.length = cap) (hl : 0 < rest.length) (hne : b ≠ g) :
    Calls Yba.prog 11 #[.pointer (some ⟨b, 0, none⟩), .int .u8 c] w fun e w' => e = .returned .nilIface ∧
      Row w' b 45 (bsl b (.slice (some ⟨g, 0, none⟩) (pre.length + 1) cap)) ∧ Row w' g 5 (pre ++ [.int .u8 c] ++ rest.drop 1) ∧ Keeps [b, g] w w' := by
  have c1 := h.cell (i := 1) rfl
  have km := keep_mid pre rest [.int .u8 c]
  go_enter Yba.func11, Yba.ntmps11
  go_wp2_with (first | (go_at_call 15; refine (copyCheck_used b _ _ h).mono ?_; rintro e w' ⟨rfl, rfl⟩) | (at_builtin; refine wpList_append_row rfl _ _ 23 rfl 5 (.int .u8 0) 1 1 Yba.underlying23 infoByte g pre.length cap (pre ++ rest) rfl (hg.alloc _) (by simp; omega) ⟨w.heap.size, 0, none⟩ 1 1 [.int .u8 c] rfl rfl (fun j u hu => cell_one_new _ _ _ j u hu) (by simp [Value.oneCell']) (by omega) ?_; rw [km]))
  intro w1 hr1 hs1 hk1
  have h1 := (h.alloc _).keeps hk1 (by simpa using hne)
  have d1 := h1.cell (i := 1) rfl
  have f1 := h1.free 1
  go_wp2
  go_ret
  refine ⟨rfl, h1.set 1 _, ?_, ?_⟩
  · refine Row.other ?_ (by simpa using Ne.symm hne) _
    simpa using hr1
  · exact (((Keeps.refl _ _).alloc _).trans (hk1.mono (fun k _ hk => by simp at hk ⊢; exact .inr hk))).setCell (.inl (by simp)) _

theorem Write_any (b g cap q t : Nat) (pre rest src : List Value) (w : World) (h : Row w b 45 (bsl b (.slice (some ⟨g, 0, none⟩) pre.length cap))) (hg : Row w g 5 (pre ++ rest)) (hq : Row w q t src) (hc : pre.length + rest.length = cap) (hl : src.length ≤ rest.length) (hne : b ≠ g) (h1 : ∀ u ∈ src, u.oneCell' = true) :
    Calls Yba.prog 12 #[.pointer (some ⟨b, 0, none⟩), .slice (some ⟨q, 0, none⟩) src.length src.length] w fun e w' => e = .returned (.tuple #[.int .i64 src.length, .nilIface]) ∧
      Row w' b 45 (bsl b (.slice (some ⟨g, 0, none⟩) (pre.length + src.length) cap)) ∧ Row w' g 5 (pre ++ src ++ rest.drop src.length) ∧ Keeps [b, g] w w' := by
  have c1 := h.cell (i := 1) rfl
  have km := keep_mid pre rest src
  go_enter Yba.func12, Yba.ntmps12
  go_wp2_with (first | (go_at_call 15; refine (copyCheck_used b _ _ h).mono ?_; rintro e w' ⟨rfl, rfl⟩) | (at_builtin; refine wpList_append_row rfl _ _ 23 rfl 5 (.int .u8 0) 1 1 Yba.underlying23 infoByte g pre.length cap (pre ++ rest) rfl hg (by simp; omega) ⟨q, 0, none⟩ src.length src.length src rfl (by simp) (fun j u hu => by rw [Addr.add_lit, Nat.zero_add]; exact hq.cell hu) h1 (by omega) ?_; rw [km]))
  intro w1 hr1 hs1 hk1
  have h1 := h.keeps hk1 (by simpa using hne)
  have d1 := h1.cell (i := 1) rfl
  have f1 := h1.free 1
  go_wp2
  go_ret2
  refine ⟨rfl, h1.set 1 _, ?_, ?_⟩
  · refine Row.other ?_ (by simpa using Ne.symm hne) _
    simpa using hr1
  · exact (hk1.mono (fun k _ hk => by simp at hk ⊢; exact .inr hk)).setCell (.inl (by simp)) _

theorem String_any (b g cap : Nat) (l : List UInt8) (rest : List Value) (w : World) (h : Row w b 45 (bsl b (.slice (some ⟨g, 0, none⟩) l.length cap))) (hg : Row w g 5 (Lib.byteCells l ++ rest)) (hc : l.length + rest.length = cap) (h0 : l ≠ []) (hm : cap ≤ maxLen) :
    Calls Yba.prog 13 #[.pointer (some ⟨b, 0, none⟩)] w fun e w' => e = .returned (.string ⟨l.toArray⟩) ∧ Keeps [g] w w' := by
  have hl0 : l.length ≠ 0 := by simpa using h0
  have c1 := h.drew.cell (i := 1) rfl
  have hSD : (Builtin.unsafeSliceData_ #[23] 60 #[.slice (some ⟨g, 0, none⟩) l.length cap]).run Yba.prog w.drew = .ok (.pointer (some ⟨g, 0, none⟩)) w.drew :=
    Lib.run_unsafeSliceData_row _ _ _ _ _ _ (by omega)
  have hUS : (Builtin.unsafeString_ #[60, 3] 9 #[.pointer (some ⟨g, 0, none⟩), .int .i64 l.length]).run Yba.prog w.drew = .ok (.string ⟨l.toArray⟩) (w.drew.freeze ⟨g, 0, none⟩ l.length) := by
    refine Lib.run_unsafeString_row w.drew 60 3 9 5 Yba.underlying60 cellsByte g (Lib.byteCells l ++ rest).length (by have hg' := hg.drew; unfold Row at hg'; simp [World.shape?, hg']) l h0 (by simp [Lib.byteCells_length]) (by unfold maxLen at hm; omega) ?_
    intro j x hx
    rw [Addr.add_lit, Nat.zero_add]
    exact hg.drew.cell (by rw [List.getElem?_append_left (by have := (List.getElem?_eq_some_iff.1 hx).1; simpa [Lib.byteCells] using this)]; simp [Lib.byteCells, hx])
  go_enter Yba.func13, Yba.ntmps13
  go_wp2
  go_region
  all_goals (go_wp2; go_ret; exact ⟨rfl, (Keeps.refl _ _).drew.freeze (.inl (by simp)) _⟩)

theorem String_nil (b : Nat) (w : World) (h : Row w b 45 (bsl b (.slice none 0 0))) :
    Calls Yba.prog 13 #[.pointer (some ⟨b, 0, none⟩)] w fun e w' => e = .returned (.string .empty) ∧ Keeps [] w w' := by
  have c1 := h.drew.cell (i := 1) rfl
  have hSD : ∀ W : World, (Builtin.unsafeSliceData_ #[23] 60 #[.slice none 0 0]).run Yba.prog W = .ok (.pointer none) W := fun W => Lib.run_unsafeSliceData_nil W _ _ _ _
  have hUS : ∀ W : World, (Builtin.unsafeString_ #[60, 3] 9 #[.pointer none, .int .i64 0]).run Yba.prog W = .ok (.string .empty) W := fun W => Lib.run_unsafeString_none W _ _ _ _
  go_enter Yba.func13, Yba.ntmps13
  go_wp2
  go_region
  all_goals (go_wp2; go_ret; exact ⟨rfl, (Keeps.refl _ _).drew⟩)

end Go.Proofs.Ybulkeaco.AW
