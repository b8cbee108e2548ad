import Derived.Test.YbulkeafuB1
namespace Go.Proofs.Ybulkeafu.BW
open Go.RowKit Go.Proofs.Ybulkeafu.Kit

theorem ret_i8 {a b : Int} (h : a = b) : Ending.returned (.int .i8 a) = .returned (.int .i8 b) := by rw [h]
/-- None of the first k is tag. -/
def noneTo (M : Nat → Int) (tag : Int) (k : Nat) : Prop := ∀ i, i < k → M i ≠ tag
theorem noneTo_succ {M : Nat → Int} {tag : Int} {k : Nat} (h : noneTo M tag k) (hk : M k ≠ tag) : noneTo M tag (k + 1) := fun i hi => by
  by_cases e : i = k
  · subst e; exact hk
  · exact h i (by omega)
theorem ans_hit {M : Nat → Int} {prog tag : Int} {ip : Bool} {k : Nat} (h0 : tag ≠ 0) (h1 : ¬ (ip = true ∧ prog ≠ tag)) (hk : k < 4) (h : noneTo M tag k) (e : M k = tag) : ans M prog tag ip = k := by
  unfold ans
  rw [if_neg (by rintro (h | h); exact h0 h; exact h1 h)]
  have hn := h
  match k, hk with
  | 0, _ => simp [e]
  | 1, _ => simp [e, hn 0 (by omega)]
  | 2, _ => simp [e, hn 0 (by omega), hn 1 (by omega)]
  | 3, _ => simp [e, hn 0 (by omega), hn 1 (by omega), hn 2 (by omega)]
theorem ans_miss {M : Nat → Int} {prog tag : Int} {ip : Bool} (h0 : tag ≠ 0) (h1 : ¬ (ip = true ∧ prog ≠ tag)) (h : noneTo M tag 4) : ans M prog tag ip = -1 := by
  unfold ans
  rw [if_neg (by rintro (h | h); exact h0 h; exact h1 h)]
  simp [h 0 (by omega), h 1 (by omega), h 2 (by omega), h 3 (by omega)]
theorem ans_stop {M : Nat → Int} {prog tag : Int} {ip : Bool} (h : tag = 0 ∨ (ip = true ∧ prog ≠ tag)) : ans M prog tag ip = -1 := by
  unfold ans; rw [if_pos h]

theorem row4 (w : World) (M : Nat → Int) : Row (w.alloc (.cells #[.int .i64 (M 0), .int .i64 (M 1), .int .i64 (M 2), .int .i64 (M 3)] 46)) w.heap.size 46 (rowF 4 fun i => .int .i64 (M i)) := Row.new w 46 _

theorem model_any (M : Nat → Int) (prog tag : Int) (ip : Bool) (w : World) :
    Calls Yba.prog 7 #[.agg #[.int .i64 (M 0), .int .i64 (M 1), .int .i64 (M 2), .int .i64 (M 3)], .int .i64 prog, .int .i64 tag, .bool ip] w fun e w' => e = .returned (.int .i8 (ans M prog tag ip)) ∧ Keeps [] w w' := by
  by_cases h0 : tag = 0
  · have HA : Hid _ := ans_stop (M := M) (prog := prog) (tag := tag) (ip := ip) (.inl h0)
    have hb : (tag == 0) = true := by simp [h0]
    clear h0
    go_enter Yba.func7, Yba.ntmps7
    go_wp2
    go_ret
    exact ⟨ret_i8 HA.out.symm, (Keeps.refl _ _).alloc _⟩
  · have hb : (tag == 0) = false := by simp [h0]
    by_cases h1 : ip = true ∧ prog ≠ tag
    · have HA : Hid _ := ans_stop (M := M) (prog := prog) (tag := tag) (ip := ip) (.inr h1)
      obtain ⟨rfl, hp⟩ := h1
      have hb2 : (prog != tag) = true := by simp [hp]
      clear h0 hp
      go_enter Yba.func7, Yba.ntmps7
      go_wp2
      go_ret
      exact ⟨ret_i8 HA.out.symm, (Keeps.refl _ _).alloc _⟩
    · have H0 : Hid (tag ≠ 0) := h0
      have H1 : Hid (¬ (ip = true ∧ prog ≠ tag)) := h1
      clear h0 h1
      have hb2 : ip = true → (prog != tag) = false := fun h => by
        have := H1.out
        simp only [h, true_and] at this
        simpa using this
      have Hhit : Hid (∀ k, k < 4 → noneTo M tag k → M k = tag → ans M prog tag ip = k) := fun k a b c => ans_hit H0.out H1.out a b c
      have Hmiss : Hid (noneTo M tag 4 → ans M prog tag ip = -1) := fun a => ans_miss H0.out H1.out a
      clear H1
      have hrow := row4 w M
      have hcells : Hid (∀ i, i < 4 → (w.alloc (.cells #[.int .i64 (M 0), .int .i64 (M 1), .int .i64 (M 2), .int .i64 (M 3)] 46)).cell? ⟨w.heap.size, i, none⟩ = some (.int .i64 (M i))) := fun i hi => hrow.cell (rowF_get hi)
      clear hrow H0
      cases ip
      case' true => have hb3 := hb2 rfl
      all_goals
        clear hb2
        go_enter Yba.func7, Yba.ntmps7
        go_wp2
        go_loop [9] (fun i => ∃ k : Nat, k ≤ 4 ∧ i = .int .i64 k ∧ Hid (noneTo M tag k)) (fun i => 4 - (intOf i).toNat)
        case atStart => exact ⟨0, by omega, rfl, fun i hi => by omega⟩
        case round =>
          obtain ⟨k, hk, rfl, hn⟩ := hrel
          by_cases hlt : k < 4
          · have hc := hcells.out k hlt
            by_cases he : M k = tag
            · have hbe : (M k == tag) = true := by simp [he]
              have HA : Hid _ := Hhit.out k hlt hn.out he
              clear he
              go_wp2
              go_ret
              exact ⟨ret_i8 HA.out.symm, (Keeps.refl _ _).alloc _⟩
            · have hbe : (M k == tag) = false := by simpa using he
              have HN : Hid _ := noneTo_succ hn.out he
              clear he
              go_wp2
              go_round
              case rel => exact ⟨k + 1, by omega, by go_num, HN⟩
              case measure => simp [intOf]; omega
          · obtain rfl : k = 4 := by omega
            go_wp2
            go_ret
            exact ⟨ret_i8 (Hmiss.out hn.out).symm, (Keeps.refl _ _).alloc _⟩

/-! ### the states, told by place -/
def rowSt (M L : Nat → Int) (i : Nat) : Value := if i % 5 = 0 then .int .i64 (M (i / 5)) else if i % 5 = 1 then .float .f64 0 else if i % 5 = 4 then .int .i64 (L (i / 5)) else .slice none 0 0
def varSt (M L : Nat → Int) (i : Nat) : Value := if i % 7 = 0 then .int .i64 (M (i / 7)) else if i % 7 = 6 then .int .i64 (L (i / 7)) else if i % 7 = 4 ∨ i % 7 = 5 then .int .i64 0 else .float .f64 0

theorem rowSt_0 (M L : Nat → Int) (k : Nat) : rowSt M L (k * 5) = .int .i64 (M k) := by simp [rowSt]
theorem rowSt_1 (M L : Nat → Int) (k : Nat) : rowSt M L (k * 5 + 1) = .float .f64 0 := by
  simp only [rowSt]; rw [if_neg (by omega), if_pos (by omega)]
theorem rowSt_2 (M L : Nat → Int) (k : Nat) : rowSt M L (k * 5 + 2) = .slice none 0 0 := by
  simp only [rowSt]; rw [if_neg (by omega), if_neg (by omega), if_neg (by omega)]
theorem rowSt_3 (M L : Nat → Int) (k : Nat) : rowSt M L (k * 5 + 3) = .slice none 0 0 := by
  simp only [rowSt]; rw [if_neg (by omega), if_neg (by omega), if_neg (by omega)]
theorem rowSt_4 (M L : Nat → Int) (k : Nat) : rowSt M L (k * 5 + 4) = .int .i64 (L k) := by
  simp only [rowSt]; rw [if_neg (by omega), if_neg (by omega), if_pos (by omega), show (k * 5 + 4) / 5 = k by omega]

theorem current_same (kp : Nat) (prog tag left : Int) (w : World) (h : (prog == tag) = true) :
    Calls Yba.prog 10 #[.pointer (some ⟨kp, 0, none⟩), .int .i64 prog, .int .i64 tag, .int .i64 left] w fun e w' => e = .returned (.bool true) ∧ w = w' := by
  go_enter Yba.func10, Yba.ntmps10
  go_wp2
  go_ret
  exact ⟨rfl, rfl⟩
theorem upon_row {o : Oper} {a : Act} {K : Act → World → Prop} {Q : Exit → Act → World → Prop} {v : Value} {nm : String} {w : World} {g : FuncId × Value → World → Result Next} (hm : Sem.run Yba.prog (method 235 76 v nm) w = .ok (30, v) w) (h : Oper.upon Yba.prog o a K Q (g (30, v) w)) :
    Oper.upon Yba.prog o a K Q ((Sem.run Yba.prog (method 235 76 v nm) w).andThen g) := by rw [hm]; exact h
theorem upon_var {o : Oper} {a : Act} {K : Act → World → Prop} {Q : Exit → Act → World → Prop} {v : Value} {nm : String} {w : World} {g : FuncId × Value → World → Result Next} (hm : Sem.run Yba.prog (method 235 81 v nm) w = .ok (31, v) w) (h : Oper.upon Yba.prog o a K Q (g (31, v) w)) :
    Oper.upon Yba.prog o a K Q ((Sem.run Yba.prog (method 235 81 v nm) w).andThen g) := by rw [hm]; exact h

set_option maxRecDepth 100000 in
theorem slot_row (M L : Nat → Int) (prog tag : Int) (ip : Bool) (kp s : Nat) (w : World) (h : Row w s 77 (rowF 20 (rowSt M L))) (hpt : prog ≠ tag → ∀ i, i < 4 → M i ≠ tag) :
    Calls Yba.prog 8 #[.pointer (some ⟨kp, 0, none⟩), .pointer (some ⟨s, 0, none⟩), .int .i64 prog, .int .i64 tag, .bool ip] w fun e w' => e = .returned (.int .i8 (ans M prog tag ip)) ∧ Keeps [] w w' := by
  by_cases h0 : tag = 0
  · have HA : Hid _ := ans_stop (M := M) (prog := prog) (tag := tag) (ip := ip) (.inl h0)
    have hb : (tag == 0) = true := by simp [h0]
    clear h0 hpt
    go_enter Yba.func8, Yba.ntmps8
    go_wp2
    go_ret
    exact ⟨ret_i8 HA.out.symm, Keeps.refl _ _⟩
  · have hb : (tag == 0) = false := by simp [h0]
    by_cases h1 : ip = true ∧ prog ≠ tag
    · have HA : Hid _ := ans_stop (M := M) (prog := prog) (tag := tag) (ip := ip) (.inr h1)
      obtain ⟨rfl, hp⟩ := h1
      have hb2 : (prog != tag) = true := by simp [hp]
      clear h0 hp hpt
      go_enter Yba.func8, Yba.ntmps8
      go_wp2
      go_ret
      exact ⟨ret_i8 HA.out.symm, Keeps.refl _ _⟩
    · have H0 : Hid (tag ≠ 0) := h0
      have H1 : Hid (¬ (ip = true ∧ prog ≠ tag)) := h1
      clear h0 h1
      have hb2 : ip = true → (prog != tag) = false := fun h => by
        have := H1.out
        simp only [h, true_and] at this
        simpa using this
      have Hhit : Hid (∀ k, k < 4 → noneTo M tag k → M k = tag → ans M prog tag ip = k) := fun k a b c => ans_hit H0.out H1.out a b c
      have Hmiss : Hid (noneTo M tag 4 → ans M prog tag ip = -1) := fun a => ans_miss H0.out H1.out a
      have Hpt : Hid (prog ≠ tag → ∀ i, i < 4 → M i ≠ tag) := hpt
      clear H1 H0 hpt
      cases ip
      case' true => have hb3 := hb2 rfl
      all_goals
        clear hb2
        go_enter Yba.func8, Yba.ntmps8
        go_wp2
        go_loopw [24] (fun i wr => ∃ k : Nat, k ≤ 4 ∧ i = .int .i64 k ∧ Hid (noneTo M tag k) ∧ Row wr s 77 (rowF 20 (rowSt M L)) ∧ Keeps [] w wr) (fun i _ => 4 - (intOf i).toNat)
        case atStart => exact ⟨0, by omega, rfl, fun i hi => by omega, h, Keeps.refl _ _⟩
        case round =>
          obtain ⟨k, hk, rfl, hn, hr, hkp⟩ := hrel
          by_cases hlt : k < 4
          · have c0 := hr.cell (rowF_get (i := k * 5) (by omega))
            have c1 := hr.cell (rowF_get (i := k * 5 + 1) (by omega))
            have c2 := hr.cell (rowF_get (i := k * 5 + 2) (by omega))
            have c3 := hr.cell (rowF_get (i := k * 5 + 3) (by omega))
            have c4 := hr.cell (rowF_get (i := k * 5 + 4) (by omega))
            rw [rowSt_0] at c0
            rw [rowSt_1] at c1
            rw [rowSt_2] at c2
            rw [rowSt_3] at c3
            rw [rowSt_4] at c4
            by_cases he : M k = tag
            · have hbe : (M k == tag) = true := by simp [he]
              have HA : Hid _ := Hhit.out k hlt hn.out he
              have hpe : (prog == tag) = true := by
                by_cases hp : prog = tag
                · simp [hp]
                · exact absurd he (Hpt.out hp k hlt)
              clear he
              go_wp2_with fail
              refine upon_row (by kernel_rfl) ?_
              go_wp2_with (first | (go_at_call 30; refine (owner_row _ _ _ _ _ _).mono ?_; rintro e w2 ⟨rfl, hk2⟩) | (go_at_call 10; refine (current_same _ _ _ _ _ hpe).mono ?_; rintro e w3 ⟨rfl, rfl⟩))
              go_ret
              exact ⟨ret_i8 HA.out.symm, hkp.after hk2 (by simp)⟩
            · have hbe : (M k == tag) = false := by simpa using he
              have HN : Hid _ := noneTo_succ hn.out he
              clear he
              go_wp2_with fail
              refine upon_row (by kernel_rfl) ?_
              go_wp2_with (go_at_call 30; refine (owner_row _ _ _ _ _ _).mono ?_; rintro e w2 ⟨rfl, hk2⟩)
              go_roundw
              case rel => exact ⟨k + 1, by omega, by go_num, HN, hr.keeps hk2 (by simp), hkp.after hk2 (by simp)⟩
              case measure => simp [intOf]; omega
          · obtain rfl : k = 4 := by omega
            go_wp2
            go_ret
            exact ⟨ret_i8 (Hmiss.out hn.out).symm, hkp⟩
theorem varSt_0 (M L : Nat → Int) (k : Nat) : varSt M L (k * 7) = .int .i64 (M k) := by simp [varSt]
theorem varSt_1 (M L : Nat → Int) (k : Nat) : varSt M L (k * 7 + 1) = .float .f64 0 := by
  simp only [varSt]; rw [if_neg (by omega), if_neg (by omega), if_neg (by omega)]
theorem varSt_2 (M L : Nat → Int) (k : Nat) : varSt M L (k * 7 + 2) = .float .f64 0 := by
  simp only [varSt]; rw [if_neg (by omega), if_neg (by omega), if_neg (by omega)]
theorem varSt_3 (M L : Nat → Int) (k : Nat) : varSt M L (k * 7 + 3) = .float .f64 0 := by
  simp only [varSt]; rw [if_neg (by omega), if_neg (by omega), if_neg (by omega)]
theorem varSt_4 (M L : Nat → Int) (k : Nat) : varSt M L (k * 7 + 4) = .int .i64 0 := by
  simp only [varSt]; rw [if_neg (by omega), if_neg (by omega), if_pos (by omega)]
theorem varSt_5 (M L : Nat → Int) (k : Nat) : varSt M L (k * 7 + 5) = .int .i64 0 := by
  simp only [varSt]; rw [if_neg (by omega), if_neg (by omega), if_pos (by omega)]
theorem varSt_6 (M L : Nat → Int) (k : Nat) : varSt M L (k * 7 + 6) = .int .i64 (L k) := by
  simp only [varSt]; rw [if_neg (by omega), if_pos (by omega), show (k * 7 + 6) / 7 = k by omega]

set_option maxRecDepth 100000 in
theorem slot_var (M L : Nat → Int) (prog tag : Int) (ip : Bool) (kp s : Nat) (w : World) (h : Row w s 82 (rowF 28 (varSt M L))) (hpt : prog ≠ tag → ∀ i, i < 4 → M i ≠ tag) :
    Calls Yba.prog 9 #[.pointer (some ⟨kp, 0, none⟩), .pointer (some ⟨s, 0, none⟩), .int .i64 prog, .int .i64 tag, .bool ip] w fun e w' => e = .returned (.int .i8 (ans M prog tag ip)) ∧ Keeps [] w w' := by
  by_cases h0 : tag = 0
  · have HA : Hid _ := ans_stop (M := M) (prog := prog) (tag := tag) (ip := ip) (.inl h0)
    have hb : (tag == 0) = true := by simp [h0]
    clear h0 hpt
    go_enter Yba.func9, Yba.ntmps9
    go_wp2
    go_ret
    exact ⟨ret_i8 HA.out.symm, Keeps.refl _ _⟩
  · have hb : (tag == 0) = false := by simp [h0]
    by_cases h1 : ip = true ∧ prog ≠ tag
    · have HA : Hid _ := ans_stop (M := M) (prog := prog) (tag := tag) (ip := ip) (.inr h1)
      obtain ⟨rfl, hp⟩ := h1
      have hb2 : (prog != tag) = true := by simp [hp]
      clear h0 hp hpt
      go_enter Yba.func9, Yba.ntmps9
      go_wp2
      go_ret
      exact ⟨ret_i8 HA.out.symm, Keeps.refl _ _⟩
    · have H0 : Hid (tag ≠ 0) := h0
      have H1 : Hid (¬ (ip = true ∧ prog ≠ tag)) := h1
      clear h0 h1
      have hb2 : ip = true → (prog != tag) = false := fun h => by
        have := H1.out
        simp only [h, true_and] at this
        simpa using this
      have Hhit : Hid (∀ k, k < 4 → noneTo M tag k → M k = tag → ans M prog tag ip = k) := fun k a b c => ans_hit H0.out H1.out a b c
      have Hmiss : Hid (noneTo M tag 4 → ans M prog tag ip = -1) := fun a => ans_miss H0.out H1.out a
      have Hpt : Hid (prog ≠ tag → ∀ i, i < 4 → M i ≠ tag) := hpt
      clear H1 H0 hpt
      cases ip
      case' true => have hb3 := hb2 rfl
      all_goals
        clear hb2
        go_enter Yba.func9, Yba.ntmps9
        go_wp2
        go_loopw [24] (fun i wr => ∃ k : Nat, k ≤ 4 ∧ i = .int .i64 k ∧ Hid (noneTo M tag k) ∧ Row wr s 82 (rowF 28 (varSt M L)) ∧ Keeps [] w wr) (fun i _ => 4 - (intOf i).toNat)
        case atStart => exact ⟨0, by omega, rfl, fun i hi => by omega, h, Keeps.refl _ _⟩
        case round =>
          obtain ⟨k, hk, rfl, hn, hr, hkp⟩ := hrel
          by_cases hlt : k < 4
          · have c0 := hr.cell (rowF_get (i := k * 7) (by omega))
            have c1 := hr.cell (rowF_get (i := k * 7 + 1) (by omega))
            have c2 := hr.cell (rowF_get (i := k * 7 + 2) (by omega))
            have c3 := hr.cell (rowF_get (i := k * 7 + 3) (by omega))
            have c4 := hr.cell (rowF_get (i := k * 7 + 4) (by omega))
            have c5 := hr.cell (rowF_get (i := k * 7 + 5) (by omega))
            have c6 := hr.cell (rowF_get (i := k * 7 + 6) (by omega))
            rw [varSt_0] at c0
            rw [varSt_1] at c1
            rw [varSt_2] at c2
            rw [varSt_3] at c3
            rw [varSt_4] at c4
            rw [varSt_5] at c5
            rw [varSt_6] at c6
            by_cases he : M k = tag
            · have hbe : (M k == tag) = true := by simp [he]
              have HA : Hid _ := Hhit.out k hlt hn.out he
              have hpe : (prog == tag) = true := by
                by_cases hp : prog = tag
                · simp [hp]
                · exact absurd he (Hpt.out hp k hlt)
              clear he
              go_wp2_with fail
              refine upon_var (by kernel_rfl) ?_
              go_wp2_with (first | (go_at_call 31; refine (owner_var _ _ _ _ _ _ _ _).mono ?_; rintro e w2 ⟨rfl, hk2⟩) | (go_at_call 10; refine (current_same _ _ _ _ _ hpe).mono ?_; rintro e w3 ⟨rfl, rfl⟩))
              go_ret
              exact ⟨ret_i8 HA.out.symm, hkp.after hk2 (by simp)⟩
            · have hbe : (M k == tag) = false := by simpa using he
              have HN : Hid _ := noneTo_succ hn.out he
              clear he
              go_wp2_with fail
              refine upon_var (by kernel_rfl) ?_
              go_wp2_with (go_at_call 31; refine (owner_var _ _ _ _ _ _ _ _).mono ?_; rintro e w2 ⟨rfl, hk2⟩)
              go_roundw
              case rel => exact ⟨k + 1, by omega, by go_num, HN, hr.keeps hk2 (by simp), hkp.after hk2 (by simp)⟩
              case measure => simp [intOf]; omega
          · obtain rfl : k = 4 := by omega
            go_wp2
            go_ret
            exact ⟨ret_i8 (Hmiss.out hn.out).symm, hkp⟩
end Go.Proofs.Ybulkeafu.BW
