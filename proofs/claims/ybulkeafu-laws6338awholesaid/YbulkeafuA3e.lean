import Derived.Test.YbulkeafuB1
namespace Go.Proofs.Ybulkeafu.TW
open Go.RowKit Go.Proofs.Ybulkeafu.Kit Go.Proofs.Ybulkeafu.BW

/-! ### two moments of the tree that are one: '!=' says false -/
theorem eqFields_same {P : Program} {w : World} {d : Nat} {xs : Array Value} : ∀ fs : List Field, (∀ f ∈ fs, ∃ v, (part f.type xs f.offset).run P w = .ok v w ∧ (Op.equalIn d f.type v v).run P w = .ok true w) → (Op.eqFields d xs xs fs).run P w = .ok true w
  | [], _ => by simp [Op.eqFields]
  | f :: fs, h => by
    obtain ⟨v, h1, h2⟩ := h f (by simp)
    have ih := eqFields_same fs (fun g hg => h g (by simp [hg]))
    unfold Op.eqFields
    by_cases hn : f.name = "_"
    · simp [hn, ih]
    · simp [hn, h1, h2, ih]

theorem int_same (d : Nat) (a : Int) (w : World) : (Op.equalIn (d + 1) 3 (.int .i64 a) (.int .i64 a)).run Yba.prog w = .ok true w := by
  rw [run_equalIn_int w d 3 .i64 .i64 a a Yba.underlying3]; simp
theorem mom_same (d : Nat) (w : World) : (Op.equalIn (d + 2) 38 (.agg #[.float .f64 0, .float .f64 0]) (.agg #[.float .f64 0, .float .f64 0])).run Yba.prog w = .ok true w := by kernel_rfl

theorem endm_same (d : Nat) (a b : Int) (w : World) : (Op.equalIn (d + 3) 40 (.agg #[.float .f64 0, .float .f64 0, .int .i64 a, .int .i64 b]) (.agg #[.float .f64 0, .float .f64 0, .int .i64 a, .int .i64 b])).run Yba.prog w = .ok true w := by
  rw [run_equalIn_struct w (d + 2) 40 _ _ (by kernel_rfl) (by kernel_rfl)]
  apply eqFields_same
  have hp : ((Yba.prog.fieldsOf 40).toList.map fun f => (f.type, f.offset)) = [(38, 0), (3, 2), (3, 3)] := by kernel_rfl
  generalize (Yba.prog.fieldsOf 40).toList = fs at *
  intro f hf
  have hm : (f.type, f.offset) ∈ fs.map fun f => (f.type, f.offset) := List.mem_map_of_mem hf
  rw [hp] at hm
  generalize f.type = t at *
  generalize f.offset = o at *
  simp only [List.mem_cons, Prod.mk.injEq, List.not_mem_nil, or_false] at hm
  rcases hm with ⟨rfl, rfl⟩ | ⟨rfl, rfl⟩ | ⟨rfl, rfl⟩
  · exact ⟨.agg #[.float .f64 0, .float .f64 0], by kernel_rfl, mom_same d w⟩
  · exact ⟨.int .i64 a, by kernel_rfl, int_same (d + 1) a w⟩
  · exact ⟨.int .i64 b, by kernel_rfl, int_same (d + 1) b w⟩
theorem neq38 (w : World) : (binOp .neq 38 (.agg #[.float .f64 0, .float .f64 0]) (.agg #[.float .f64 0, .float .f64 0])).run Yba.prog w = .ok (.bool false) w := by kernel_rfl
theorem neq40 (a b : Int) (w : World) : (binOp .neq 40 (.agg #[.float .f64 0, .float .f64 0, .int .i64 a, .int .i64 b]) (.agg #[.float .f64 0, .float .f64 0, .int .i64 a, .int .i64 b])).run Yba.prog w = .ok (.bool false) w := by
  have h : (Op.equalIn Op.maxDepth 40 (.agg #[.float .f64 0, .float .f64 0, .int .i64 a, .int .i64 b]) (.agg #[.float .f64 0, .float .f64 0, .int .i64 a, .int .i64 b])).run Yba.prog w = .ok true w := endm_same 9997 a b w
  simp [binOp, Op.equal, h]
end Go.Proofs.Ybulkeafu.TW
