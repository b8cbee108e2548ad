import Derived.Test.YbulkeafuB2
namespace Go.Proofs.Ybulkeafu.BW
open Go.RowKit Go.Proofs.Ybulkeafu.Kit

/-! ### two arrays of states that are one: '==' says true -/
theorem eqFields_same {P : Program} {w : World} {d : Nat} {xs : Array Value} : ∀ fs : List Field, (∀ f ∈ fs, ∃ v, (part f.type xs f.offset).run P w = .ok v w ∧ (Op.equalIn d f.type v v).run P w = .ok true w) → (Op.eqFields d xs xs fs).run P w = .ok true w
  | [], _ => by simp [Op.eqFields]
  | f :: fs, h => by
    obtain ⟨v, h1, h2⟩ := h f (by simp)
    have ih := eqFields_same fs (fun g hg => h g (by simp [hg]))
    unfold Op.eqFields
    by_cases hn : f.name = "_"
    · simp [hn, ih]
    · simp [hn, h1, h2, ih]

theorem int_same (d : Nat) (a : Int) (w : World) : (Op.equalIn (d + 1) 3 (.int .i64 a) (.int .i64 a)).run Yba.prog w = .ok true w := by
  rw [run_equalIn_int w d 3 .i64 .i64 a a Yba.underlying3]; simp
theorem float_same (d : Nat) (w : World) : (Op.equalIn (d + 1) 36 (.float .f64 0) (.float .f64 0)).run Yba.prog w = .ok true w := by kernel_rfl

theorem var_same (d : Nat) (a b : Int) (w : World) : (Op.equalIn (d + 2) 81 (.agg #[.int .i64 a, .float .f64 0, .float .f64 0, .float .f64 0, .int .i64 0, .int .i64 0, .int .i64 b]) (.agg #[.int .i64 a, .float .f64 0, .float .f64 0, .float .f64 0, .int .i64 0, .int .i64 0, .int .i64 b])).run Yba.prog w = .ok true w := by
  rw [run_equalIn_struct w (d + 1) 81 _ _ (by kernel_rfl) (by kernel_rfl)]
  apply eqFields_same
  have hp : ((Yba.prog.fieldsOf 81).toList.map fun f => (f.type, f.offset)) = [(3, 0), (36, 1), (36, 2), (36, 3), (3, 4), (3, 5), (3, 6)] := by kernel_rfl
  generalize (Yba.prog.fieldsOf 81).toList = fs at *
  intro f hf
  have hm : (f.type, f.offset) ∈ fs.map fun f => (f.type, f.offset) := List.mem_map_of_mem hf
  rw [hp] at hm
  generalize f.type = t at *
  generalize f.offset = o at *
  simp only [List.mem_cons, Prod.mk.injEq, List.not_mem_nil, or_false] at hm
  rcases hm with ⟨rfl, rfl⟩ | ⟨rfl, rfl⟩ | ⟨rfl, rfl⟩ | ⟨rfl, rfl⟩ | ⟨rfl, rfl⟩ | ⟨rfl, rfl⟩ | ⟨rfl, rfl⟩
  · exact ⟨.int .i64 a, by kernel_rfl, int_same d a w⟩
  · exact ⟨.float .f64 0, by kernel_rfl, float_same d w⟩
  · exact ⟨.float .f64 0, by kernel_rfl, float_same d w⟩
  · exact ⟨.float .f64 0, by kernel_rfl, float_same d w⟩
  · exact ⟨.int .i64 0, by kernel_rfl, int_same d 0 w⟩
  · exact ⟨.int .i64 0, by kernel_rfl, int_same d 0 w⟩
  · exact ⟨.int .i64 b, by kernel_rfl, int_same d b w⟩

theorem part_0 (f : Nat → Value) (w : World) : (part 81 (rowF 28 f).toArray 0).run Yba.prog w = .ok (.agg #[f 0, f 1, f 2, f 3, f 4, f 5, f 6]) w := by kernel_rfl
theorem part_1 (f : Nat → Value) (w : World) : (part 81 (rowF 28 f).toArray 7).run Yba.prog w = .ok (.agg #[f 7, f 8, f 9, f 10, f 11, f 12, f 13]) w := by kernel_rfl
theorem part_2 (f : Nat → Value) (w : World) : (part 81 (rowF 28 f).toArray 14).run Yba.prog w = .ok (.agg #[f 14, f 15, f 16, f 17, f 18, f 19, f 20]) w := by kernel_rfl
theorem part_3 (f : Nat → Value) (w : World) : (part 81 (rowF 28 f).toArray 21).run Yba.prog w = .ok (.agg #[f 21, f 22, f 23, f 24, f 25, f 26, f 27]) w := by kernel_rfl

theorem size81 (w : World) : (sizeOf 81).run Yba.prog w = .ok 7 w := by kernel_rfl
theorem eqArray_same {P : Program} {w : World} {d t n e size : Nat} {xs : Array Value} (ht : P.underlying t = some (.array n e)) (hs : (sizeOf e).run P w = .ok size w)
    (h : ∀ i, i < n → ∃ v, (part e xs (i * size)).run P w = .ok v w ∧ (Op.equalIn d e v v).run P w = .ok true w) : (Op.equalIn (d + 1) t (.agg xs) (.agg xs)).run P w = .ok true w := by
  have key : ∀ l : List Nat, (∀ i ∈ l, i < n) → Sem.run P (forIn l ((none, ()) : Option Bool × Unit) fun i __s => do
            let a ← part e xs (i * size)
            let b ← part e xs (i * size)
            let r ← Op.equalIn d e a b
            if (!r) = true then pure (ForInStep.done (some false, ())) else pure (ForInStep.yield (none, ()))) w = .ok (none, ()) w := by
    intro l
    induction l with
    | nil => intro _; simp
    | cons i l ih =>
      intro hl
      obtain ⟨v, h1, h2⟩ := h i (hl i (by simp))
      have := ih (fun j hj => hl j (by simp [hj]))
      simp only [List.forIn_cons, Sem.run_bind, h1, h2, Result.andThen_ok, Bool.not_true, Bool.false_eq_true, if_false, Sem.run_pure]
      exact this
  simp only [Op.equalIn, Sem.run_bind, run_underlying ht, Result.andThen_ok, hs]
  rw [Std.Legacy.Range.forIn_eq_forIn_range']
  rw [key _ (fun i hi => by simp [List.mem_range'] at hi; omega)]
  simp
theorem arr_same (M L : Nat → Int) (w : World) : (Op.equalIn 10000 82 (.agg (rowF 28 (varSt M L)).toArray) (.agg (rowF 28 (varSt M L)).toArray)).run Yba.prog w = .ok true w := by
  refine eqArray_same (d := 9999) Yba.underlying82 (size81 w) (fun i hi => ?_)
  match i, hi with
  | 0, _ => exact ⟨_, part_0 _ w, var_same 9997 (M 0) (L 0) w⟩
  | 1, _ => exact ⟨_, part_1 _ w, var_same 9997 (M 1) (L 1) w⟩
  | 2, _ => exact ⟨_, part_2 _ w, var_same 9997 (M 2) (L 2) w⟩
  | 3, _ => exact ⟨_, part_3 _ w, var_same 9997 (M 3) (L 3) w⟩
end Go.Proofs.Ybulkeafu.BW
