import Derived.Test.YbulkeacoRows
import Derived.Test.YbulkeacoKit
namespace Go.Proofs.Ybulkeaco.BW
open Go.RowKit Go.Proofs.Ybulkeaco.Kit

theorem ret_min {n k : Nat} (h : min n 64 = k) : Ending.returned (.int .u64 (2 ^ k - 1)) = .returned (.int .u64 (2 ^ min n 64 - 1)) := by rw [h]
theorem or_pow64 : ∀ k : Fin 64, bits BinOp.or IntKind.u64 (2 ^ k.val - 1) (IntKind.u64.wrap (2 ^ k.val)) = 2 ^ (k.val + 1) - 1 := by decide +kernel
theorem or_pow (k : Nat) (h : k < 64) : bits BinOp.or IntKind.u64 (2 ^ k - 1) (IntKind.u64.wrap (2 ^ k)) = 2 ^ (k + 1) - 1 := or_pow64 ⟨k, h⟩
theorem all_wrap65 : ∀ k : Fin 65, IntKind.u64.wrap (IntKind.u64.wrap (2 ^ k.val) - 1) = 2 ^ k.val - 1 := by decide +kernel
theorem all_wrap (n : Nat) : IntKind.u64.wrap (IntKind.u64.wrap (2 ^ min n 64) - 1) = 2 ^ min n 64 - 1 := all_wrap65 ⟨min n 64, by omega⟩

theorem ball_any (n : Nat) (w : World) (hn : n ≤ 1048576) :
    Calls Yba.prog 7 #[.int .i64 n] w fun e w' => e = .returned (.int .u64 (2 ^ (min n 64) - 1)) ∧ w = w' := by
  go_enter Yba.func7, Yba.ntmps7
  go_wp2
  go_loop [3, 4] (fun s i => ∃ k : Nat, k ≤ min n 64 ∧ i = .int .i64 k ∧ s = .int .u64 (2 ^ k - 1)) (fun _ i => 64 - (intOf i).toNat)
  case atStart => exact ⟨0, by omega, rfl, rfl⟩
  case round =>
    obtain ⟨k, hk, rfl, rfl⟩ := hrel
    by_cases hlt : k < n
    · by_cases h64 : k < 64
      · go_wp2
        go_round
        case rel => exact ⟨k + 1, by omega, by go_num, by rw [or_pow k h64]⟩
        case measure => simp [intOf]; omega
      · go_wp2
        go_ret
        exact ⟨ret_min (by omega), rfl⟩
    · go_wp2
      go_ret
      exact ⟨ret_min (by omega), rfl⟩

theorem all_take_succ (zs : List Int) (A : Int) (k : Nat) (h : k < zs.length) : (zs.take (k + 1)).all (· == A) = ((zs.take k).all (· == A) && zs[k] == A) := by
  rw [List.take_succ_eq_append_getElem h]; simp only [List.all_append, List.all_cons, List.all_nil, Bool.and_true]
theorem ret_bool {a b : Bool} (h : a = b) : Ending.returned (.bool a) = .returned (.bool b) := by rw [h]

theorem graph_any (b o n c : Nat) (zs : List Int) (w : World) (hn : n ≤ 1048576) (hz : zs.length = n) (hc : Hid (∀ i (h : i < zs.length), w.cell? ⟨b, o + i, none⟩ = some (.int .u64 zs[i]))) :
    Calls Yba.prog 8 #[.slice (some ⟨b, o, none⟩) n c] w fun e w' => e = .returned (.bool (zs.all (fun z => z == 2 ^ (min n 64) - 1))) ∧ w = w' := by
  have ha := all_wrap n
  generalize hA : (2 : Int) ^ min n 64 - 1 = A at *
  have HA : Hid ((2 : Int) ^ min n 64 - 1 = A) := hA
  have HN : Hid (zs.length = n) := hz
  clear hA hz
  go_enter Yba.func8, Yba.ntmps8
  go_wp2
  go_loop [12] (fun i => ∃ k : Nat, k ≤ n ∧ i = .int .i64 k ∧ (zs.take k).all (· == A) = true) (fun i => n - (intOf i).toNat)
  case atStart => exact ⟨0, by omega, rfl, rfl⟩
  case round =>
    obtain ⟨k, hk, rfl, hall⟩ := hrel
    have Hall : Hid ((zs.take k).all (· == A) = true) := hall
    clear hall
    by_cases hlt : k < n
    · have hlz : k < zs.length := by rw [HN.out]; exact hlt
      have hcell := hc.out k hlz
      have hst := all_take_succ zs A k hlz
      have Hst : Hid ((zs.take (k + 1)).all (· == A) = ((zs.take k).all (· == A) && zs[k] == A)) := hst
      clear hst
      by_cases he : zs[k] = A
      · have hb : (zs[k] != A) = false := by simp [he]
        go_wp2
        go_round
        case rel => exact ⟨k + 1, by omega, by go_num, by rw [Hst.out, Hall.out]; simp [he]⟩
        case measure => simp [intOf]; omega
      · have hb : (zs[k] != A) = true := by simp [he]
        go_wp2
        go_ret
        exact ⟨ret_bool (Eq.symm (List.all_eq_false.2 ⟨zs[k], List.getElem_mem hlz, by simpa using he⟩)), rfl⟩
    · go_wp2
      go_ret
      exact ⟨ret_bool (by rw [← Hall.out, List.take_of_length_le (by rw [HN.out]; omega)]), rfl⟩

theorem graph_nil (w : World) : Calls Yba.prog 8 #[.slice none 0 0] w fun e w' => e = .returned (.bool true) ∧ w = w' := by
  go_enter Yba.func8, Yba.ntmps8
  go_wp2
  refine wp_loop_rounds 1 ?_
  rw [rounds_succ]
  go_wp2
  go_ret
  exact ⟨rfl, rfl⟩

theorem Yba.info38 : (Yba.prog.info? 38).map (fun i => (i.zero, i.size, i.bytes)) = some (some (.int .u64 0), 1, 8) := by kernel_rfl

def tgt (raw : Bool) (A : Int) (zs : List Int) : List Int := zs.map fun z => if raw then z else bits .xor .u64 A (z / 4)

theorem Row_start {w : World} {b : Nat} {n : Nat} {T : List Int} (h : Row w b 38 (madeCells #[Value.int IntKind.u64 0] n).toList) : Row w b 38 ((T.take 0 ++ List.replicate (n - 0) 0).map (Value.int .u64)) := by
  rw [madeCells_one] at h; simpa using h
theorem set_step (T : List Int) (k n : Nat) (hk : k < n) (hT : T.length = n) : ((T.take k ++ List.replicate (n - k) 0).map (Value.int .u64)).set k (.int .u64 (T[k]'(by omega))) = (T.take (k + 1) ++ List.replicate (n - (k + 1)) 0).map (Value.int .u64) := by
  rw [List.take_succ_eq_append_getElem (by omega), ← List.map_set, List.set_append_right _ _ (by simp; omega)]
  rw [show k - (T.take k).length = 0 by simp; omega, show n - k = (n - (k + 1)) + 1 by omega, List.replicate_succ]
  simp only [List.set_cons_zero, List.append_assoc, List.cons_append, List.nil_append]
theorem at_zero (T : List Int) (k n : Nat) (hk : k < n) (hT : T.length = n) : ((T.take k ++ List.replicate (n - k) 0).map (Value.int .u64))[k]? = some (.int .u64 0) := by
  rw [List.getElem?_map, List.getElem?_append_right (by simp; omega), List.getElem?_replicate, if_pos (by simp; omega)]
  rfl
theorem tgt_false (A : Int) (zs : List Int) (k : Nat) (h : k < zs.length) (h' : k < (tgt false A zs).length) : bits .xor .u64 A (zs[k] / 4) = (tgt false A zs)[k] := by simp [tgt]
theorem tgt_true (A : Int) (zs : List Int) (k : Nat) (h : k < zs.length) (h' : k < (tgt true A zs).length) : zs[k] = (tgt true A zs)[k] := by simp [tgt]

set_option maxHeartbeats 400000 in
theorem law_row (x : Addr) (n c : Nat) (raw : Bool) (zs : List Int) (w : World) (hn : n ≤ 1048576) (hz : zs.length = n) (hc : Hid (∀ i (h : i < zs.length), w.cell? (x.add i) = some (.int .u64 zs[i]))) :
    Calls Yba.prog 4 #[.slice (some x) n c, .bool raw] w fun e w' => e = .returned (.bool true) ∧ Below w.heap.size w w' := by
  have e1 := fun w a n c => run_neq_slice_nil_any (P := Yba.prog) w 36 38 a n c 0 0 Yba.underlying36
  have e2 := fun w a n c => Lib.run_eql_slice_nil (P := Yba.prog) w 36 38 a n c 0 0 Yba.underlying36
  have HN : Hid (zs.length = n) := hz
  clear hz
  go_enter Yba.func4, Yba.ntmps4
  go_wp2_with (first | (go_at_call 7; refine (ball_any n _ hn).mono ?_; rintro e w' ⟨rfl, rfl⟩) | (at_make; refine wpList_make_row rfl _ _ 36 rfl 38 (.int .u64 0) 1 8 Yba.underlying36 Yba.info38 _ _ _ _ n rfl rfl rfl rfl (by omega) (by unfold maxLen; omega) ?_))
  intro w1 hr1 hs1 hb1
  generalize hA : (2 : Int) ^ min n 64 - 1 = A at *
  have HA : Hid ((2 : Int) ^ min n 64 - 1 = A) := hA
  clear hA
  have HT : Hid ((tgt raw A zs).length = n) := by show _ = _; rw [tgt, List.length_map]; exact HN.out
  go_wp2
  go_loopw [8] (fun i wr => ∃ k : Nat, k ≤ n ∧ i = .int .i64 k ∧ Row wr w.heap.size 38 (((tgt raw A zs).take k ++ List.replicate (n - k) 0).map (Value.int .u64)) ∧ wr.heap.size = w.heap.size + 1 ∧ Below w.heap.size w wr) (fun i _ => n - (intOf i).toNat)
  case atStart => exact ⟨0, by omega, rfl, Row_start hr1, hs1, hb1⟩
  case round =>
    obtain ⟨k, hk, rfl, hr, hsz, hb⟩ := hrel
    by_cases hlt : k < n
    · have hlz : k < zs.length := by rw [HN.out]; exact hlt
      have hcell := (hb.cell (p := x.add k) (World.block_lt_of_cell? w (x.add k) (hc.out k hlz))).trans (hc.out k hlz)
      have hfr := hr.free k
      have hco := hr.cell (i := k) (v := .int .u64 0) (at_zero _ _ _ hlt HT.out)
      cases raw
      · go_wp2
        go_roundw
        case rel =>
          refine ⟨k + 1, by omega, by go_num, ?_, by simp [hsz], hb.setCell (by simp) _⟩
          rw [tgt_false A zs k hlz (by rw [HT.out]; exact hlt), ← set_step _ k n hlt HT.out]
          exact hr.set _ _
        case measure => simp [intOf]; omega
      · go_wp2
        go_roundw
        case rel =>
          refine ⟨k + 1, by omega, by go_num, ?_, by simp [hsz], hb.setCell (by simp) _⟩
          rw [tgt_true A zs k hlz (by rw [HT.out]; exact hlt), ← set_step _ k n hlt HT.out]
          exact hr.set _ _
        case measure => simp [intOf]; omega
    · obtain rfl : k = n := by omega
      have hr2 : Row wr w.heap.size 38 ((tgt raw A zs).map (Value.int .u64)) := by
        have := hr
        rw [List.take_of_length_le (by rw [HT.out]; omega), Nat.sub_self] at this
        simpa using this
      clear hr hs1 hb1 hr1
      go_wp2_with (at_make; refine wpList_make_row rfl _ _ 36 rfl 38 (.int .u64 0) 1 8 Yba.underlying36 Yba.info38 _ _ _ _ k rfl rfl rfl rfl (by omega) (by unfold maxLen; omega) ?_)
      intro w3 hr3 hs3 hb3
      have hr2' := hr2.below hb3 (by omega)
      have hb4 := hb.trans (hb3.mono (by omega))
      generalize hTT : tgt raw A zs = T at *
      clear hTT hsz hb hb3 hr2 hc HN
      go_wp2_with (refine wpList_copy_row rfl (.tmp 50) (.tmp 51) 36 36 rfl 38 (.int .u64 0) 8 Yba.underlying36 Yba.info38 _ _ _ _ _ _ rfl rfl (w.heap.size + 1) _ 38 hr3 (T.map (Value.int .u64)) (by simp [HT.out]) (fun _ => ⟨rfl, _, rfl, fun j v hv => by rw [Addr.add_lit, Nat.zero_add]; exact hr2'.cell hv⟩) (by simp [HT.out, madeCells]) (ints_oneCell _ _) ?_)
      intro w4 hr4 hs4 ho4 hb5
      have hr5 : Row w4 (w.heap.size + 1) 38 (T.map (Value.int .u64)) := by
        have := hr4
        rw [List.drop_eq_nil_of_le (by simp [HT.out, madeCells]), List.append_nil] at this
        exact this
      have hr6 : Row w4 w.heap.size 38 (T.map (Value.int .u64)) := (ho4 _ (by omega)).trans hr2'
      have hb6 := hb4.trans (hb5.mono (by omega))
      clear hr4 ho4 hb5 hb4 hr2' hr3 hs3
      go_wp2
      go_loop [10, 11] (fun want i => ∃ j : Nat, j ≤ k ∧ i = .int .i64 j ∧ want = .bool ((T.take j).all (· == A))) (fun _ i => k - (intOf i).toNat)
      case atStart => exact ⟨0, by omega, rfl, rfl⟩
      case round =>
        obtain ⟨j, hj, rfl, rfl⟩ := hrel
        by_cases hlt2 : j < k
        · have hjT : j < T.length := by rw [HT.out]; exact hlt2
          have hcell := hr6.cell (i := j) (v := .int .u64 T[j]) (by simp [hjT])
          have Hst : Hid ((T.take (j + 1)).all (· == A) = ((T.take j).all (· == A) && T[j] == A)) := all_take_succ T A j hjT
          by_cases he : T[j] = A
          · have hbq : (T[j] != A) = false := by simp [he]
            go_wp2
            go_round
            case rel => exact ⟨j + 1, by omega, by go_num, by rw [Hst.out]; simp [he]⟩
            case measure => simp [intOf]; omega
          · have hbq : (T[j] != A) = true := by simp [he]
            go_wp2
            go_round
            case rel => exact ⟨j + 1, by omega, by go_num, by rw [Hst.out]; simp [he]⟩
            case measure => simp [intOf]; omega
        · obtain rfl : j = k := by omega
          have hgr := graph_any w.heap.size 0 j j T w4 (by omega) HT.out (fun i h => by rw [Nat.zero_add]; exact hr6.cell (by simp [h]))
          rw [HA.out] at hgr
          rw [List.take_of_length_le (by rw [HT.out]; omega)]
          go_wp2_with (go_at_call 8; refine hgr.mono ?_; rintro e w' ⟨rfl, rfl⟩)
          clear hgr
          go_loopw [13] (fun i wq => ∃ q : Nat, q ≤ j ∧ i = .int .i64 q ∧ ∃ nq, wq = w4.drewN nq) (fun i _ => j - (intOf i).toNat)
          case atStart => exact ⟨0, by omega, rfl, 0, rfl⟩
          case round =>
            obtain ⟨q, hq, rfl, nq, rfl⟩ := hrel
            by_cases hlt3 : q < j
            · have hqT : q < T.length := by rw [HT.out]; exact hlt3
              have hc1 := hr6.cell (i := q) (v := .int .u64 T[q]) (by simp [hqT])
              have hc2 := hr5.cell (i := q) (v := .int .u64 T[q]) (by simp [hqT])
              go_wp2
              go_quiet (fail)
              go_wp2
              go_roundw
              case rel => exact ⟨q + 1, by omega, by go_num, _, rfl⟩
              case measure => simp [intOf]; omega
            · go_wp2
              go_ret
              exact ⟨rfl, Below.drewN' hb6⟩

theorem law_nil (raw : Bool) (w : World) :
    Calls Yba.prog 4 #[.slice none 0 0, .bool raw] w fun e w' => e = .returned (.bool true) ∧ Below w.heap.size w w' := by
  have e1 := fun w a n c => run_neq_slice_nil_any (P := Yba.prog) w 36 38 a n c 0 0 Yba.underlying36
  have e2 := fun w a n c => Lib.run_eql_slice_nil (P := Yba.prog) w 36 38 a n c 0 0 Yba.underlying36
  have hb := ball_any 0
  go_enter Yba.func4, Yba.ntmps4
  go_wp2_with (first | (go_at_call 7; refine (hb _ (by omega)).mono ?_; rintro e w' ⟨rfl, rfl⟩) | (at_make; refine wpList_make_row rfl _ _ 36 rfl 38 (.int .u64 0) 1 8 Yba.underlying36 Yba.info38 _ _ _ _ 0 rfl rfl rfl rfl (by omega) (by unfold maxLen; omega) ?_))
  intro w1 hr1 hs1 hb1
  go_wp2_with (refine wpList_copy_nothing rfl (.tmp 50) (.tmp 51) 36 36 rfl 38 Yba.underlying36 (by kernel_rfl) _ _ _ _ _ _ rfl rfl rfl ?_)
  refine wp_loop_rounds 1 ?_
  rw [rounds_succ]
  go_wp2_with (go_at_call 8; refine (graph_nil _).mono ?_; rintro e w' ⟨rfl, rfl⟩)
  refine wp_loop_rounds 1 ?_
  rw [rounds_succ]
  go_wp2
  go_ret
  exact ⟨rfl, hb1⟩

theorem law_big (a : Option Addr) (n c : Nat) (raw : Bool) (w : World) (hn : 1048576 < n) (hm : n ≤ 9223372036854775807) :
    Calls Yba.prog 4 #[.slice a n c, .bool raw] w fun e w' => e = .returned (.bool true) ∧ Below w.heap.size w w' := by
  go_enter Yba.func4, Yba.ntmps4
  go_wp2
  go_ret
  exact ⟨rfl, Below.refl _ _⟩
end Go.Proofs.Ybulkeaco.BW
