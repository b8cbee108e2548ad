import Derived.Test.YbulkeafuB2b
namespace Go.Proofs.Ybulkeafu.BW
open Go.RowKit Go.Proofs.Ybulkeafu.Kit

/-- A struct built of zeros and parts, its cells left unnamed: for a struct of many cells. -/
theorem wpList_build_any {P : Program} {w : World} {ops : Array Oper} {rest : List Oper} {o : Oper} {a : Act} {Q : Exit → Act → World → Prop} (hg : o.guard = none) (t : TypeId) (parts : Array (Nat × Operand)) (ho : o.op = .build t parts)
    (hf : (P.built t (parts.map fun (i, x) => (i, a.eval x)).toList).isSome = true)
    (h : ∀ cells, wpList P ops Q rest (a.put o.dst (.agg cells)) w) : wpList P ops Q (o :: rest) a w :=
  wpList_plain hg fun _ hK => wp_build t parts ho hf (hK _ _ (h _))

theorem wpList_load_row_g {P : Program} {ops : Array Oper} {rest : List Oper} {o : Oper} {a : Act} {w : World} {Q : Exit → Act → World → Prop} (hgd : Region.wanted o (yielded ops a.tmps) = true) (ty : TypeId) (x : Operand) (ho : o.op = .load ty x)
    (g : Nat) (hx : a.eval x = .pointer (some ⟨g, 0, none⟩)) (t : TypeId) (cs : Array Value) (fr : Nat × Nat) (d : TypeDesc) (hg : w.heap[g]? = some (.cells cs t fr))
    (hu : P.underlying ty = some d) (hd : (match d with | .struct _ | .array _ _ => true | _ => false) = true) (hi : (P.info? ty).map (·.size) = some cs.size)
    (h : wpList P ops Q rest (a.put o.dst (.agg cs)) w) : wpList P ops Q (o :: rest) a w :=
  wpList_step fun K hK => by rw [if_pos hgd]; exact wp_load_row ty x ho g hx t cs fr d hg hu hd hi (hK _ _ h)

def Rt (T : Nat → Int) (tag : Int) (i : Nat) : Int := if T i = tag then wrap64 (tag + 1) else T i

theorem rowSt_fill (M L : Nat → Int) (k : Nat) : ((rowF 20 (rowSt (fun i => if i < k then M i else 0) (fun i => if i < k then L i else 0))).set (k * 5) (.int .i64 (M k))).set (k * 5 + 4) (.int .i64 (L k)) = rowF 20 (rowSt (fun i => if i < k + 1 then M i else 0) (fun i => if i < k + 1 then L i else 0)) := by
  rw [rowF_set, rowF_set]
  apply rowF_congr
  intro i _
  by_cases h4 : i = k * 5 + 4
  · subst h4; rw [if_pos rfl, rowSt_4]; simp
  · rw [if_neg h4]
    by_cases h0 : i = k * 5
    · subst h0; rw [if_pos rfl, rowSt_0]; simp
    · rw [if_neg h0]
      have e : (i % 5 = 0 ∨ i % 5 = 4) → (i / 5 < k + 1 ↔ i / 5 < k) := fun h => by omega
      unfold rowSt
      by_cases a : i % 5 = 0
      · simp only [a, if_true, e (.inl a)]
      · by_cases b : i % 5 = 4
        · simp only [b, if_true, e (.inr b)]
        · simp [a, b]
theorem rowSt_end (M L : Nat → Int) : rowF 20 (rowSt (fun i => if i < 4 then M i else 0) (fun i => if i < 4 then L i else 0)) = rowF 20 (rowSt M L) := by
  apply rowF_congr
  intro i hi
  unfold rowSt
  simp only [show i / 5 < 4 by omega, if_true]
theorem varSt_fill (M L : Nat → Int) (k : Nat) : ((rowF 28 (varSt (fun i => if i < k then M i else 0) (fun i => if i < k then L i else 0))).set (k * 7) (.int .i64 (M k))).set (k * 7 + 6) (.int .i64 (L k)) = rowF 28 (varSt (fun i => if i < k + 1 then M i else 0) (fun i => if i < k + 1 then L i else 0)) := by
  rw [rowF_set, rowF_set]
  apply rowF_congr
  intro i _
  by_cases h4 : i = k * 7 + 6
  · subst h4; rw [if_pos rfl, varSt_6]; simp
  · rw [if_neg h4]
    by_cases h0 : i = k * 7
    · subst h0; rw [if_pos rfl, varSt_0]; simp
    · rw [if_neg h0]
      have e : (i % 7 = 0 ∨ i % 7 = 6) → (i / 7 < k + 1 ↔ i / 7 < k) := fun h => by omega
      unfold varSt
      by_cases a : i % 7 = 0
      · simp only [a, if_true, e (.inl a)]
      · by_cases b : i % 7 = 6
        · simp only [b, if_true, e (.inr b)]
        · simp [a, b]
theorem varSt_end (M L : Nat → Int) : rowF 28 (varSt (fun i => if i < 4 then M i else 0) (fun i => if i < 4 then L i else 0)) = rowF 28 (varSt M L) := by
  apply rowF_congr
  intro i hi
  unfold varSt
  simp only [show i / 7 < 4 by omega, if_true]
theorem retag_step (T : Nat → Int) (tag : Int) (k : Nat) (v : Int) (h : Rt T tag k = v) : (rowF 4 fun i => Value.int .i64 (if i < k then Rt T tag i else T i)).set k (.int .i64 v) = rowF 4 fun i => .int .i64 (if i < k + 1 then Rt T tag i else T i) := by
  rw [rowF_set]
  apply rowF_congr
  intro i _
  by_cases e : i = k
  · subst e; simp [h]
  · rw [if_neg e]
    by_cases e2 : i < k
    · simp [e2, show i < k + 1 by omega]
    · simp [e2, show ¬ i < k + 1 by omega]
theorem retag_skip (T : Nat → Int) (tag : Int) (k : Nat) (h : Rt T tag k = T k) : (rowF 4 fun i => Value.int .i64 (if i < k then Rt T tag i else T i)) = rowF 4 fun i => .int .i64 (if i < k + 1 then Rt T tag i else T i) := by
  apply rowF_congr
  intro i _
  by_cases e : i = k
  · subst e; simp [h]
  · by_cases e2 : i < k
    · simp [e2, show i < k + 1 by omega]
    · simp [e2, show ¬ i < k + 1 by omega]
theorem retag_end (T : Nat → Int) (tag : Int) : (rowF 4 fun i => Value.int .i64 (if i < 4 then Rt T tag i else T i)) = rowF 4 fun i => .int .i64 (Rt T tag i) := by
  apply rowF_congr
  intro i hi
  simp [hi]
theorem Rt_ne (T : Nat → Int) (tag : Int) (i : Nat) : Rt T tag i ≠ tag := by
  unfold Rt
  split
  · unfold wrap64; omega
  · assumption

set_option maxRecDepth 100000 in
set_option maxHeartbeats 2000000 in
theorem law_walk (T L : Nat → Int) (prog tag : Int) (ip rows : Bool) (w : World) :
    Calls Yba.prog 4 #[.agg #[.int .i64 (T 0), .int .i64 (T 1), .int .i64 (T 2), .int .i64 (T 3)], .agg #[.int .i64 (L 0), .int .i64 (L 1), .int .i64 (L 2), .int .i64 (L 3)], .int .i64 prog, .int .i64 tag, .bool ip, .bool rows] w fun e w' => e = .returned (.bool true) ∧ Below w.heap.size w w' := by
  go_enter Yba.func4, Yba.ntmps4
  go_upto_if 28 with fail
  go_cut [7, 13] (fun v7 v13 w' => ∃ q p, v7 = .pointer (some ⟨q, 0, none⟩) ∧ v13 = .pointer (some ⟨p, 0, none⟩) ∧ w.heap.size ≤ q ∧ w.heap.size ≤ p ∧ ∃ M : Nat → Int, Hid (prog ≠ tag → ∀ i, i < 4 → M i ≠ tag) ∧ Row w' q 46 (rowF 4 fun i => .int .i64 (L i)) ∧ Row w' p 46 (rowF 4 fun i => .int .i64 (M i)) ∧ Keeps [] w w')
  case first =>
    have hr1 : Row (((w.alloc (.cells #[.int .i64 (T 0), .int .i64 (T 1), .int .i64 (T 2), .int .i64 (T 3)] 46)).alloc (.cells #[.int .i64 (L 0), .int .i64 (L 1), .int .i64 (L 2), .int .i64 (L 3)] 46)).alloc (.cells #[.int .i64 (T 0), .int .i64 (T 1), .int .i64 (T 2), .int .i64 (T 3)] 46)) (w.heap.size + 1) 46 (rowF 4 fun i => .int .i64 (L i)) := (Row.new' _ 46 _ (by simp)).alloc _
    have hr2 : Row (((w.alloc (.cells #[.int .i64 (T 0), .int .i64 (T 1), .int .i64 (T 2), .int .i64 (T 3)] 46)).alloc (.cells #[.int .i64 (L 0), .int .i64 (L 1), .int .i64 (L 2), .int .i64 (L 3)] 46)).alloc (.cells #[.int .i64 (T 0), .int .i64 (T 1), .int .i64 (T 2), .int .i64 (T 3)] 46)) (w.heap.size + 2) 46 (rowF 4 fun i => .int .i64 (T i)) := Row.new' _ 46 _ (by simp)
    have hk0 := (((Keeps.refl [] w).alloc (.cells #[.int .i64 (T 0), .int .i64 (T 1), .int .i64 (T 2), .int .i64 (T 3)] 46)).alloc (.cells #[.int .i64 (L 0), .int .i64 (L 1), .int .i64 (L 2), .int .i64 (L 3)] 46)).alloc (.cells #[.int .i64 (T 0), .int .i64 (T 1), .int .i64 (T 2), .int .i64 (T 3)] 46)
    by_cases hp : prog = tag
    · have hb : (prog != tag) = false := by simp [hp]
      have HP : Hid (prog = tag) := hp
      clear hp
      go_wp2
      go_meet
      exact ⟨_, _, rfl, rfl, by omega, by omega, T, fun h => absurd HP.out h, hr1, hr2, hk0⟩
    · have hb : (prog != tag) = true := by simp [hp]
      clear hp
      go_wp2
      go_loopw [14] (fun i wr => ∃ k : Nat, k ≤ 4 ∧ i = .int .i64 k ∧ Row wr (w.heap.size + 1) 46 (rowF 4 fun i => .int .i64 (L i)) ∧ Row wr (w.heap.size + 2) 46 (rowF 4 fun i => .int .i64 (if i < k then Rt T tag i else T i)) ∧ Keeps [] w wr) (fun i _ => 4 - (intOf i).toNat)
      case atStart => exact ⟨0, by omega, rfl, hr1, hr2, hk0⟩
      case round =>
        clear hr1 hr2 hk0
        obtain ⟨k, hk, rfl, hr1, hr2, hkp⟩ := hrel
        by_cases hlt : k < 4
        · have c0 := hr2.cell (rowF_get hlt)
          rw [if_neg (by omega)] at c0
          have f0 := hr2.free k
          by_cases he : T k = tag
          · have hbe : (T k == tag) = true := by simp [he]
            have HF : Hid _ := retag_step T tag k (wrap64 (tag + 1)) (by simp [Rt, he])
            clear he
            go_wp2
            go_roundw
            case rel => exact ⟨k + 1, by omega, by go_num, hr1.other (by simp) _, by rw [← HF.out]; exact hr2.set _ _, hkp.setCell (.inr (by first | (simp; done) | (simp; omega))) _⟩
            case measure => simp [intOf]; omega
          · have hbe : (T k == tag) = false := by simpa using he
            have HF : Hid _ := retag_skip T tag k (by simp [Rt, he])
            clear he
            go_wp2
            go_roundw
            case rel => exact ⟨k + 1, by omega, by go_num, hr1, by rw [← HF.out]; exact hr2, hkp⟩
            case measure => simp [intOf]; omega
        · obtain rfl : k = 4 := by omega
          go_wp2
          go_meet
          exact ⟨_, _, rfl, rfl, by omega, by omega, Rt T tag, fun _ i hi => Rt_ne T tag i, hr1, by rw [← retag_end]; exact hr2, hkp⟩
  case rest =>
    obtain ⟨q, p, rfl, rfl, hq, hp, M, HM, hr1, hr2, hkp⟩ := hcut
    have c0 := hr2.cell (rowF_get (i := 0) (by omega))
    have c1 := hr2.cell (rowF_get (i := 1) (by omega))
    have c2 := hr2.cell (rowF_get (i := 2) (by omega))
    have c3 := hr2.cell (rowF_get (i := 3) (by omega))
    go_wp2_with (first | (go_at_call 7; refine (model_any M prog tag ip _).mono ?_; rintro e w2 ⟨rfl, hk2⟩) | (refine wpList_build_any rfl 73 #[] rfl (by kernel_rfl) ?_))
    intro kc
    go_upto_if 49 with fail
    have hk3 := hkp.after (hk2.alloc (Obj.cells kc 73)) (by simp)
    have hl3 := hr1.keeps (hk2.alloc (Obj.cells kc 73)) (by simp)
    have hm3 := hr2.keeps (hk2.alloc (Obj.cells kc 73)) (by simp)
    generalize w2.heap.size = kp at *
    generalize w2.alloc (Obj.cells kc 73) = w3 at *
    clear hr1 hr2 hkp c0 c1 c2 c3 hk2
    have e36 : ∀ W : World, (binOp .neq 36 (.float .f64 0) (.float .f64 0)).run Yba.prog W = .ok (.bool false) W := fun W => by kernel_rfl
    have e64 := fun w a n c => run_neq_slice_nil_any (P := Yba.prog) w 64 _ a n c 0 0 Yba.underlying64
    have e74 := fun w a n c => run_neq_slice_nil_any (P := Yba.prog) w 74 _ a n c 0 0 Yba.underlying74
    cases rows
    · go_wp2
      go_loopw [22] (fun i wr => ∃ k : Nat, k ≤ 4 ∧ i = .int .i64 k ∧ Row wr w3.heap.size 82 (rowF 28 (varSt (fun i => if i < k then M i else 0) (fun i => if i < k then L i else 0))) ∧ Row wr q 46 (rowF 4 fun i => .int .i64 (L i)) ∧ Row wr p 46 (rowF 4 fun i => .int .i64 (M i)) ∧ Keeps [] w wr) (fun i _ => 4 - (intOf i).toNat)
      case atStart => exact ⟨0, by omega, rfl, Row.new w3 82 _, hl3.alloc _, hm3.alloc _, hk3.alloc _⟩
      case round =>
        have hql := hl3.lt
        have hpl := hm3.lt
        have hwl := hk3.size
        clear hl3 hm3 hk3
        obtain ⟨k, hk, rfl, hs, hl, hm, hkp⟩ := hrel
        by_cases hlt : k < 4
        · have m0 := hm.cell (rowF_get hlt)
          have l0 := hl.cell (rowF_get hlt)
          have s0 := hs.cell (rowF_get (i := k * 7) (by omega))
          have s4 := hs.cell (rowF_get (i := k * 7 + 6) (by omega))
          have f0 := hs.free (k * 7)
          have f4 := hs.free (k * 7 + 6)
          have l0' := hl.other (a := ⟨w3.heap.size, k * 7, none⟩) (by simp; omega) (.int .i64 (M k))
          have l1 := l0'.cell (rowF_get hlt)
          go_wp2
          go_roundw
          case rel =>
            refine ⟨k + 1, by omega, by go_num, by rw [← varSt_fill]; exact (hs.set _ _).set _ _, (hl.other (by simp; omega) _).other (by simp; omega) _, (hm.other (by simp; omega) _).other (by simp; omega) _, (hkp.setCell (.inr (by simpa using hwl)) _).setCell (.inr (by simpa using hwl)) _⟩
          case measure => simp [intOf]; omega
        · obtain rfl : k = 4 := by omega
          rw [varSt_end] at hs
          have hs' := hs
          unfold Row at hs'
          have HS : Hid _ := hs'
          clear hs'
          have hK5 : ∀ Z X, Keeps [] wr ((wr.alloc Z).setRow wr.heap.size X) := fun Z X => ((Keeps.refl [] wr).alloc Z).after (Keeps.setRow _ _ _) (fun i h1 h2 => by simp at h2; omega)
          have hB5 : ∀ z X, Hid (Row ((wr.alloc (.cells z 82)).setRow wr.heap.size X) wr.heap.size 82 X.toList) := fun z X => by
            show _ = _
            rw [setRow_heap _ _ _ _ 82 (0, 0) (heap_alloc_new wr _)]
          have heq : ∀ W : World, (binOp .eql 82 (.agg (rowF 28 (varSt M L)).toArray) (.agg (rowF 28 (varSt M L)).toArray)).run Yba.prog W = .ok (.bool true) W := fun W => by
            rw [run_eql_struct, arr_same]; rfl
          have hgt82 : Yba.prog.eqGuardType Yba.prog.depth 82 = false := by kernel_rfl
          go_wp2_with (first | (refine wpList_load_row rfl 82 (.tmp 21) rfl w3.heap.size rfl 82 _ (0, 0) _ HS.out Yba.underlying82 rfl (by kernel_rfl) ?_) | (refine wpList_store_row rfl 82 (.tmp 23) (.tmp 133) rfl wr.heap.size _ rfl rfl 82 _ (heap_alloc_new wr _) (by kernel_rfl) rfl (by kernel_rfl) ?_))
          refine (slot_var M L prog tag ip _ _ _ (hs.keeps (hK5 _ _) (by simp)) HM.out).mono ?_
          rintro e w6 ⟨rfl, hk6⟩
          have hs6 : Hid (w6.heap[w3.heap.size]? = _) := (hs.keeps (hK5 _ _) (by simp)).keeps hk6 (by simp)
          have hb6 : Hid (w6.heap[wr.heap.size]? = _) := (hB5 _ _).out.keeps hk6 (by simp)
          have hk7 := (hkp.after (hK5 _ _) (by simp)).after hk6 (by simp)
          clear hK5 hB5 HS hs hl hm hkp hk6
          go_wp2_with (first | (refine wpList_load_row_g rfl 82 (.tmp 21) rfl w3.heap.size rfl 82 _ (0, 0) _ hs6.out Yba.underlying82 rfl (by kernel_rfl) ?_) | (refine wpList_load_row_g rfl 82 (.tmp 23) rfl wr.heap.size rfl 82 _ (0, 0) _ hb6.out Yba.underlying82 rfl (by kernel_rfl) ?_))
          go_ret
          exact ⟨rfl, hk7.below (by simp) (Nat.le_refl _)⟩
    · go_wp2
      go_loopw [18] (fun i wr => ∃ k : Nat, k ≤ 4 ∧ i = .int .i64 k ∧ Row wr w3.heap.size 77 (rowF 20 (rowSt (fun i => if i < k then M i else 0) (fun i => if i < k then L i else 0))) ∧ Row wr q 46 (rowF 4 fun i => .int .i64 (L i)) ∧ Row wr p 46 (rowF 4 fun i => .int .i64 (M i)) ∧ Keeps [] w wr) (fun i _ => 4 - (intOf i).toNat)
      case atStart => exact ⟨0, by omega, rfl, Row.new w3 77 _, hl3.alloc _, hm3.alloc _, hk3.alloc _⟩
      case round =>
        have hql := hl3.lt
        have hpl := hm3.lt
        have hwl := hk3.size
        clear hl3 hm3 hk3
        obtain ⟨k, hk, rfl, hs, hl, hm, hkp⟩ := hrel
        by_cases hlt : k < 4
        · have m0 := hm.cell (rowF_get hlt)
          have l0 := hl.cell (rowF_get hlt)
          have s0 := hs.cell (rowF_get (i := k * 5) (by omega))
          have s4 := hs.cell (rowF_get (i := k * 5 + 4) (by omega))
          have f0 := hs.free (k * 5)
          have f4 := hs.free (k * 5 + 4)
          have l0' := hl.other (a := ⟨w3.heap.size, k * 5, none⟩) (by simp; omega) (.int .i64 (M k))
          have l1 := l0'.cell (rowF_get hlt)
          go_wp2
          go_roundw
          case rel =>
            refine ⟨k + 1, by omega, by go_num, by rw [← rowSt_fill]; exact (hs.set _ _).set _ _, (hl.other (by simp; omega) _).other (by simp; omega) _, (hm.other (by simp; omega) _).other (by simp; omega) _, (hkp.setCell (.inr (by simpa using hwl)) _).setCell (.inr (by simpa using hwl)) _⟩
          case measure => simp [intOf]; omega
        · obtain rfl : k = 4 := by omega
          rw [rowSt_end] at hs
          go_wp2_with (go_at_call 8; refine (slot_row M L prog tag ip _ _ _ hs HM.out).mono ?_; rintro e w4 ⟨rfl, hk4⟩)
          have hs4 := hs.keeps hk4 (by simp)
          have hl4 := hl.keeps hk4 (by simp)
          have hm4 := hm.keeps hk4 (by simp)
          have hk5 := hkp.after hk4 (by simp)
          clear hs hl hm hkp hk4
          go_loopw [20] (fun i wr => ∃ z : Nat, z ≤ 4 ∧ i = .int .i64 z ∧ ∃ nq, wr = w4.drewN nq) (fun i _ => 4 - (intOf i).toNat)
          case atStart => exact ⟨0, by omega, rfl, 0, rfl⟩
          case round =>
            obtain ⟨z, hz, rfl, nq, rfl⟩ := hrel
            by_cases hlz : z < 4
            · have m0 := hm4.cell (rowF_get hlz)
              have l0 := hl4.cell (rowF_get hlz)
              have c0 := hs4.cell (rowF_get (i := z * 5) (by omega))
              have c1 := hs4.cell (rowF_get (i := z * 5 + 1) (by omega))
              have c2 := hs4.cell (rowF_get (i := z * 5 + 2) (by omega))
              have c3 := hs4.cell (rowF_get (i := z * 5 + 3) (by omega))
              have c4 := hs4.cell (rowF_get (i := z * 5 + 4) (by omega))
              rw [rowSt_0] at c0
              rw [rowSt_1] at c1
              rw [rowSt_2] at c2
              rw [rowSt_3] at c3
              rw [rowSt_4] at c4
              have hzi : (z : Int) < 4 := by omega
              go_wp2
              go_quiet (fail)
              go_wp2
              go_roundw
              case rel => exact ⟨z + 1, by omega, by go_num, _, rfl⟩
              case measure => simp [intOf]; omega
            · go_wp2
              go_ret
              exact ⟨rfl, (hk5.drewN _).below (by simp) (Nat.le_refl _)⟩
end Go.Proofs.Ybulkeafu.BW
