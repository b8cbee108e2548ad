import Derived.Test.YbulkeacoA2
namespace Go.Proofs.Ybulkeaco.AW
open Go.RowKit Go.Proofs.Ybulkeaco.Kit

def entB (o : Int × Bool) : List UInt8 := (if o.2 then 1 else 0) :: Lib.leBytes 8 (IntKind.u64.wrap (if o.2 then o.1 else 0)).toNat
def vecB (os : List (Int × Bool)) : List UInt8 := os.flatMap entB
def optCells (os : List (Int × Bool)) : List Value := os.flatMap fun o => [.int .i64 o.1, .bool o.2]

theorem entB_length (o : Int × Bool) : (entB o).length = 9 := by simp [entB, Lib.leBytes_length]
theorem vecB_length (os : List (Int × Bool)) : (vecB os).length = 9 * os.length := by
  induction os with
  | nil => rfl
  | cons o os ih => simp only [vecB, List.flatMap_cons, List.length_append, entB_length] at *; simp only [ih, List.length_cons]; omega
theorem optCells_length (os : List (Int × Bool)) : (optCells os).length = 2 * os.length := by
  induction os with
  | nil => rfl
  | cons o os ih => simp only [optCells, List.flatMap_cons, List.length_append] at *; simp only [ih, List.length_cons, List.length_nil]; omega
theorem optCells_0 (os : List (Int × Bool)) (k : Nat) (h : k < os.length) : (optCells os)[k * 2]? = some (.int .i64 os[k].1) := by
  induction os generalizing k with
  | nil => simp at h
  | cons o os ih =>
    match k with
    | 0 => simp [optCells]
    | k + 1 =>
      have := ih k (by simpa using h)
      rw [show (k + 1) * 2 = k * 2 + 1 + 1 by omega]
      simpa [optCells] using this
theorem optCells_1 (os : List (Int × Bool)) (k : Nat) (h : k < os.length) : (optCells os)[k * 2 + 1]? = some (.bool os[k].2) := by
  induction os generalizing k with
  | nil => simp at h
  | cons o os ih =>
    match k with
    | 0 => simp [optCells]
    | k + 1 =>
      have := ih k (by simpa using h)
      rw [show (k + 1) * 2 + 1 = k * 2 + 1 + 1 + 1 by omega]
      simpa [optCells] using this
theorem vecB_snoc (os : List (Int × Bool)) (k : Nat) (h : k < os.length) : vecB (os.take (k + 1)) = vecB (os.take k) ++ entB os[k] := by
  rw [List.take_succ_eq_append_getElem h]; simp only [vecB, List.flatMap_append, List.flatMap_cons, List.flatMap_nil, List.append_nil]

theorem u64_toNat (x : Int) : IntKind.u64.wrap x = ((IntKind.u64.wrap x).toNat : Int) ∧ (IntKind.u64.wrap x).toNat < 18446744073709551616 := by
  have h : IntKind.u64.wrap x = x % 18446744073709551616 := by simp [IntKind.wrap, IntKind.bits, IntKind.signed]
  rw [h]; omega
theorem word_len (v : Nat) : (Lib.byteCells (Lib.leBytes 8 v)).length = 8 ∧ ∀ u ∈ Lib.byteCells (Lib.leBytes 8 v), u.oneCell' = true := by
  refine ⟨by rw [Lib.byteCells_length, Lib.leBytes_length], ?_⟩
  intro u hu
  obtain ⟨x, _, rfl⟩ := List.mem_map.1 hu
  rfl

theorem len8 {α : Type} {l : List α} (h : l.length = 8) : ∃ y0 y1 y2 y3 y4 y5 y6 y7, l = [y0, y1, y2, y3, y4, y5, y6, y7] := by
  match l, h with
  | [y0, y1, y2, y3, y4, y5, y6, y7], _ => exact ⟨_, _, _, _, _, _, _, _, rfl⟩

set_option maxHeartbeats 1000000 in
theorem NewVector_pos (p : Nat) (os : List (Int × Bool)) (w : World) (h : Row w p 27 (optCells os)) (hn : os.length ≤ 1048576) (h0 : 0 < os.length) (hwf : Hid (∀ o ∈ os, -9223372036854775808 ≤ o.1 ∧ o.1 ≤ 9223372036854775807)) :
    Calls Yba.prog 5 #[.slice (some ⟨p, 0, none⟩) os.length os.length] w fun e w' => e = .returned (.agg #[.string ⟨(vecB os).toArray⟩]) ∧ Keeps [] w w' := by
  have hlt := h.lt
  go_enter Yba.func5, Yba.ntmps5
  go_wp2_with fail
  rw [show ((os.length : Int) * 9) = ((os.length * 9 : Nat) : Int) from by omega]
  refine (Grow_fresh (w.heap.size + 1) (os.length * 9) _ (Row.new' (w.alloc (Obj.cells #[Value.string { data := #[] }] 30)) 45 [.pointer none, .slice none 0 0] (by simp)) (by omega) (by omega)).mono ?_
  rintro e w1 ⟨rfl, g, cs, hb1, hg1, hle, hmx, hgs, hk1⟩
  have hb0 : Row w1 w.heap.size 30 [.string ⟨#[]⟩] := ((Row.new w 30 [.string ⟨#[]⟩]).alloc _).keeps hk1 (by simp)
  have hk2 : Keeps [] w w1 := (((Keeps.refl [w.heap.size + 1] _).alloc _).alloc _).trans hk1 |>.mono (by simp; omega)
  have hsz1 := hk1.size
  simp at hgs hsz1
  have hgl := hg1.lt
  generalize hcap : cs.length = cap at *
  clear hk1
  go_wp2
  go_loopw [15] (fun i wr => ∃ k : Nat, k ≤ os.length ∧ i = .int .i64 k ∧ (∃ rest, Row wr g 5 (Lib.byteCells (vecB (os.take k)) ++ rest) ∧ 9 * k + rest.length = cap) ∧ Row wr (w.heap.size + 1) 45 (bsl (w.heap.size + 1) (.slice (some ⟨g, 0, none⟩) (9 * k) cap)) ∧
      (∃ x0 x1 x2 x3 x4 x5 x6 x7, Row wr w1.heap.size 47 [x0, x1, x2, x3, x4, x5, x6, x7]) ∧ Row wr w.heap.size 30 [.string ⟨#[]⟩] ∧ Keeps [] w wr) (fun i _ => os.length - (intOf i).toNat)
  case atStart => exact ⟨0, by omega, rfl, ⟨cs, hg1.alloc _, by simp [hcap]⟩, hb1.alloc _, ⟨_, _, _, _, _, _, _, _, Row.new w1 47 _⟩, hb0.alloc _, hk2.alloc _⟩
  case round =>
    obtain ⟨k, hk, rfl, ⟨rest, hg, hrest⟩, hb, ⟨x0, x1, x2, x3, x4, x5, x6, x7, hq⟩, hr, hkp⟩ := hrel
    by_cases hlt2 : k < os.length
    · have hpr := h.keeps hkp (by simp)
      have e0 := hpr.cell (optCells_0 os k hlt2)
      have e1 := hpr.cell (optCells_1 os k hlt2)
      have hwk := hwf.out os[k] (List.getElem_mem hlt2)
      have HS : Hid (vecB (os.take (k + 1)) = vecB (os.take k) ++ entB os[k]) := vecB_snoc os k hlt2
      have hpl : (Lib.byteCells (vecB (os.take k))).length = 9 * k := by rw [Lib.byteCells_length, vecB_length, List.length_take]; omega
      generalize os[k] = o at *
      obtain ⟨v, ok⟩ := o
      have HE : Hid (Lib.byteCells (vecB (os.take (k + 1))) = Lib.byteCells (vecB (os.take k)) ++ [.int .u8 (if ok then 1 else 0)] ++ Lib.byteCells (Lib.leBytes 8 (IntKind.u64.wrap (if ok then v else 0)).toNat)) := by
        show _ = _
        rw [HS.out, Lib.byteCells_append, entB, Lib.byteCells]
        cases ok <;> simp [Lib.byteCells]
      clear HS
      have hvw : IntKind.u64.wrap (if ok then v else 0) = ((IntKind.u64.wrap (if ok then v else 0)).toNat : Int) ∧ (IntKind.u64.wrap (if ok then v else 0)).toNat < 18446744073709551616 := u64_toNat _
      have hW := word_len (IntKind.u64.wrap (if ok then v else 0)).toNat
      have hP := Put_any w1.heap.size 47 _ _ hvw.1 x0 x1 x2 x3 x4 x5 x6 x7 _ hvw.2 (hq.alloc (Obj.cells #[Value.int IntKind.i64 v, Value.bool ok] 27)).drew
      have hP2 := fun n => Put_any w1.heap.size 47 _ _ hvw.1 x0 x1 x2 x3 x4 x5 x6 x7 _ hvw.2 ((hq.alloc (Obj.cells #[Value.int IntKind.i64 v, Value.bool ok] 27)).drewN n)
      generalize Lib.byteCells (vecB (os.take k)) = pre at *
      generalize (IntKind.u64.wrap (if ok then v else 0)).toNat = V at *
      generalize hWB : Lib.byteCells (Lib.leBytes 8 V) = wb at *
      clear hvw hWB
      have hW8 := len8 hW.1
      have hB1 := hb.lt
      rw [← hpl] at hb
      have fin : ∀ (w2 : World) (j : Nat), Row w2 w1.heap.size 47 wb → Keeps [w1.heap.size] ((wr.alloc (Obj.cells #[Value.int IntKind.i64 v, Value.bool ok] 27)).drewN j) w2 →
          Calls Yba.prog 11 #[.pointer (some ⟨w.heap.size + 1, 0, none⟩), .int .u8 (if ok then 1 else 0)] w2 fun e w3 => e = .returned .nilIface ∧
            Row w3 (w.heap.size + 1) 45 (bsl (w.heap.size + 1) (.slice (some ⟨g, 0, none⟩) (pre.length + 1) cap)) ∧ Row w3 g 5 (pre ++ [.int .u8 (if ok then 1 else 0)] ++ rest.drop 1) ∧ Row w3 w1.heap.size 47 wb ∧ Row w3 w.heap.size 30 [.string ⟨#[]⟩] ∧ Keeps [] w w3 := by
        intro w2 j hq2 hk5
        refine (WriteByte_any (w.heap.size + 1) g cap pre rest _ w2 (((hb.alloc _).drewN j).keeps hk5 (by simp; omega)) (((hg.alloc _).drewN j).keeps hk5 (by simp; omega)) (by omega) (by omega) (by omega)).mono ?_
        rintro e w3 ⟨rfl, hb3, hg3, hk6⟩
        refine ⟨rfl, hb3, hg3, hq2.keeps hk6 (by simp; omega), (((hr.alloc _).drewN j).keeps hk5 (by simp; omega)).keeps hk6 (by simp; omega), ?_⟩
        exact (((hkp.alloc _).drewN j).after hk5 (fun i h1 h2 => by simp at h2; omega)).after hk6 (fun i h1 h2 => by simp at h2; omega)
      have fin2 : ∀ (w3 : World), Row w3 (w.heap.size + 1) 45 (bsl (w.heap.size + 1) (.slice (some ⟨g, 0, none⟩) (pre.length + 1) cap)) → Row w3 g 5 (pre ++ [.int .u8 (if ok then 1 else 0)] ++ rest.drop 1) → Row w3 w1.heap.size 47 wb → Row w3 w.heap.size 30 [.string ⟨#[]⟩] → Keeps [] w w3 →
          Calls Yba.prog 12 #[.pointer (some ⟨w.heap.size + 1, 0, none⟩), .slice (some ⟨w1.heap.size, 0, none⟩) 8 8] w3 fun e w4 => e = .returned (.tuple #[.int .i64 8, .nilIface]) ∧
            (∃ rest', Row w4 g 5 (Lib.byteCells (vecB (os.take (k + 1))) ++ rest') ∧ 9 * (k + 1) + rest'.length = cap) ∧ Row w4 (w.heap.size + 1) 45 (bsl (w.heap.size + 1) (.slice (some ⟨g, 0, none⟩) (9 * (k + 1)) cap)) ∧ Row w4 w1.heap.size 47 wb ∧ Row w4 w.heap.size 30 [.string ⟨#[]⟩] ∧ Keeps [] w w4 := by
        intro w3 hb3 hg3 hq3 hr3 hk3
        have hWr := Write_any (w.heap.size + 1) g cap w1.heap.size 47 (pre ++ [.int .u8 (if ok then 1 else 0)]) (rest.drop 1) wb w3 (by simpa using hb3) hg3 hq3 (by simp; omega) (by simp [hW.1]; omega) (by omega) hW.2
        rw [hW.1] at hWr
        refine hWr.mono ?_
        rintro e w4 ⟨rfl, hb4, hg4, hk4⟩
        refine ⟨rfl, ⟨(rest.drop 1).drop 8, by rw [HE.out]; exact hg4, by simp; omega⟩, ?_, hq3.keeps hk4 (by simp; omega), hr3.keeps hk4 (by simp; omega), hk3.after hk4 (fun i h1 h2 => by simp at h2; omega)⟩
        rw [show 9 * (k + 1) = (pre ++ [Value.int .u8 (if ok then 1 else 0)]).length + 8 by simp; omega]
        exact hb4
      clear HE hW hg hb hr hg1 hb0 hk2 hb1 hpr
      cases ok
      · simp only at e0 e1 hwk hP hP2
        go_wp2_with fail
        go_region_with (go_at_call 10; refine hP.mono ?_; rintro e w2 ⟨rfl, hq2, hk5⟩)
        clear hP hP2
        go_wp2_with (first | (go_at_call 11; refine (fin _ 1 hq2 hk5).mono ?_; rintro e w3 ⟨rfl, hb3, hg3, hq3, hr3, hk3⟩) | (go_at_call 12; refine (fin2 _ hb3 hg3 hq3 hr3 hk3).mono ?_; rintro e w4 ⟨rfl, hg4, hb4, hq4, hr4, hk4⟩))
        go_roundw
        case rel => exact ⟨k + 1, by omega, by go_num, hg4, hb4, by obtain ⟨y0, y1, y2, y3, y4, y5, y6, y7, rfl⟩ := hW8; exact ⟨_, _, _, _, _, _, _, _, hq4⟩, hr4, hk4⟩
        case measure => simp [intOf]; omega
      · simp only at e0 e1 hwk hP hP2
        go_wp2_with fail
        go_quiet (fail)
        go_wp2_with fail
        go_region_with (go_at_call 10; refine (hP2 _).mono ?_; rintro e w2 ⟨rfl, hq2, hk5⟩)
        clear hP hP2
        go_wp2_with (first | (go_at_call 11; refine (fin _ _ hq2 hk5).mono ?_; rintro e w3 ⟨rfl, hb3, hg3, hq3, hr3, hk3⟩) | (go_at_call 12; refine (fin2 _ hb3 hg3 hq3 hr3 hk3).mono ?_; rintro e w4 ⟨rfl, hg4, hb4, hq4, hr4, hk4⟩))
        go_roundw
        case rel => exact ⟨k + 1, by omega, by go_num, hg4, hb4, by obtain ⟨y0, y1, y2, y3, y4, y5, y6, y7, rfl⟩ := hW8; exact ⟨_, _, _, _, _, _, _, _, hq4⟩, hr4, hk4⟩
        case measure => simp [intOf]; omega
    · obtain rfl : k = os.length := by omega
      have hl : (vecB os).length = 9 * os.length := vecB_length os
      have hne : vecB os ≠ [] := fun e => by rw [e] at hl; simp at hl; omega
      rw [List.take_length] at hg
      rw [← hl] at hb
      have hS := String_any (w.heap.size + 1) g cap (vecB os) rest wr hb hg (by omega) hne hmx
      go_wp2_with (go_at_call 13; refine hS.mono ?_; rintro e w2 ⟨rfl, hk3⟩; have hr2 := hr.keeps hk3 (by simp; omega); have z1 := hr2.cell (i := 0) rfl; have z2 := hr2.free 0)
      have hfin := hr2.set 0 (.string ⟨(vecB os).toArray⟩)
      have zf := hfin.cell (i := 0) rfl
      refine bodyPost_ret (v := .agg #[.string ⟨(vecB os).toArray⟩]) (by simp [results, Yba.results5, go_sem, zf]) rfl ⟨rfl, ?_⟩
      exact (hkp.after hk3 (fun i h1 h2 => by simp at h2; omega)).setCell (.inr (by simp)) _
theorem NewVector_zero (a : Option Addr) (w : World) :
    Calls Yba.prog 5 #[.slice a 0 0] w fun e w' => e = .returned (.agg #[.string ⟨(vecB []).toArray⟩]) ∧ Keeps [] w w' := by
  go_enter Yba.func5, Yba.ntmps5
  go_wp2_with fail
  refine (Grow_zero (w.heap.size + 1) _ (Row.new' (w.alloc (Obj.cells #[Value.string { data := #[] }] 30)) 45 [.pointer none, .slice none 0 0] (by simp))).mono ?_
  rintro e w1 ⟨rfl, hb1, hk1⟩
  have hb0 : Row w1 w.heap.size 30 [.string ⟨#[]⟩] := ((Row.new w 30 [.string ⟨#[]⟩]).alloc _).keeps hk1 (by simp)
  have hk2 : Keeps [] w w1 := (((Keeps.refl [w.heap.size + 1] _).alloc _).alloc _).trans hk1 |>.mono (by simp; omega)
  go_wp2
  refine wp_loop_rounds 1 ?_
  rw [rounds_succ]
  go_wp2_with (go_at_call 13; refine (String_nil (w.heap.size + 1) _ (hb1.alloc _)).mono ?_; rintro e w2 ⟨rfl, hk3⟩; have hr2 := (hb0.alloc _).keeps hk3 (by simp); have z1 := hr2.cell (i := 0) rfl; have z2 := hr2.free 0)
  have hfin := hr2.set 0 (.string ByteArray.empty)
  have zf := hfin.cell (i := 0) rfl
  refine bodyPost_ret (v := .agg #[.string ByteArray.empty]) (by simp [results, Yba.results5, go_sem, zf]) rfl ⟨rfl, ?_⟩
  exact ((hk2.alloc _).after hk3 (fun i h1 h2 => by simp at h2)).setCell (.inr (by simp)) _
end Go.Proofs.Ybulkeaco.AW
