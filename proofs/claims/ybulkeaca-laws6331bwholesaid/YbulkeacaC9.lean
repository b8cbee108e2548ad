import Derived.Test.YbulkeacaC7
import Derived.Laws.StructEq
import Derived.MapKept
namespace Go.Proofs.Ybulkeaca.CW
open Go.RowKit Go.Proofs.Ybulkeaca.Kit

/-! ### comparisons of a thing with itself -/
theorem neq_same {t te : TypeId} (hp : Yba.prog.underlying t = some (.pointer te)) (hi : (Yba.prog.info? te).isSome = true) (a : Addr) (W : World) : (binOp .neq t (.pointer (some a)) (.pointer (some a))).run Yba.prog W = .ok (.bool false) W := by
  obtain ⟨j, hj⟩ := Option.isSome_iff_exists.1 hi
  have h : ∀ d : Nat, (Op.equalIn (d + 1) t (.pointer (some a)) (.pointer (some a))).run Yba.prog W = .ok true W := fun d => by
    simp [Op.equalIn, run_underlying hp, sizeOf, typeInfo, hj, run_sameAddr_same]
  simp only [binOp]
  simp [Op.equal, Op.maxDepth, h 9999]
theorem neq88s (b : Nat) (W : World) : (binOp .neq 88 (pt b) (pt b)).run Yba.prog W = .ok (.bool false) W := neq_same Yba.underlying88 (by kernel_rfl) _ W
theorem neq27s (b : Nat) (W : World) : (binOp .neq 27 (pt b) (pt b)).run Yba.prog W = .ok (.bool false) W := neq_same Yba.underlying27 (by kernel_rfl) _ W
theorem neq100s (a : Addr) (W : World) : (binOp .neq 100 (.pointer (some a)) (.pointer (some a))).run Yba.prog W = .ok (.bool false) W := neq_same Yba.underlying100 (by kernel_rfl) _ W
theorem eqFields_same {P : Program} {w : World} {d : Nat} {xs : Array Value} : ∀ fs : List Field, (∀ f ∈ fs, ∃ v, (part f.type xs f.offset).run P w = .ok v w ∧ (Op.equalIn d f.type v v).run P w = .ok true w) → (Op.eqFields d xs xs fs).run P w = .ok true w
  | [], _ => by simp [Op.eqFields]
  | f :: fs, h => by
    obtain ⟨v, h1, h2⟩ := h f (by simp)
    have ih := eqFields_same fs (fun g hg => h g (by simp [hg]))
    unfold Op.eqFields
    by_cases hn : f.name = "_"
    · simp [hn, ih]
    · simp [hn, h1, h2, ih]
theorem i64_same (d : Nat) (a : Int) (w : World) : (Op.equalIn (d + 1) 3 (.int .i64 a) (.int .i64 a)).run Yba.prog w = .ok true w := by
  rw [run_equalIn_int w d 3 .i64 .i64 a a Yba.underlying3]; simp
theorem str_same (d : Nat) (s : ByteArray) (w : World) : (Op.equalIn (d + 1) 9 (.string s) (.string s)).run Yba.prog w = .ok true w := by
  have e : (s == s) = true := (Go.MapKept.bytes_beq s s).2 rfl
  simp [Op.equalIn, run_underlying Yba.underlying9, e]
theorem place_same (d : Nat) (s : ByteArray) (y : Int) (w : World) : (Op.equalIn (d + 2) 78 (.agg #[.string s, vi y]) (.agg #[.string s, vi y])).run Yba.prog w = .ok true w := by
  rw [run_equalIn_struct w (d + 1) 78 _ _ (by kernel_rfl) (by kernel_rfl)]
  apply eqFields_same
  have hp : ((Yba.prog.fieldsOf 78).toList.map fun f => (f.type, f.offset)) = [(9, 0), (3, 1)] := by kernel_rfl
  generalize (Yba.prog.fieldsOf 78).toList = fs at *
  intro f hf
  have hm : (f.type, f.offset) ∈ fs.map fun f => (f.type, f.offset) := List.mem_map_of_mem hf
  rw [hp] at hm
  generalize f.type = t at *
  generalize f.offset = o at *
  simp only [List.mem_cons, Prod.mk.injEq, List.not_mem_nil, or_false] at hm
  rcases hm with ⟨rfl, rfl⟩ | ⟨rfl, rfl⟩
  · exact ⟨.string s, by kernel_rfl, str_same d s w⟩
  · exact ⟨vi y, by kernel_rfl, i64_same d y w⟩
theorem neq78 (s : ByteArray) (y : Int) (W : World) : (binOp .neq 78 (.agg #[.string s, vi y]) (.agg #[.string s, vi y])).run Yba.prog W = .ok (.bool false) W := by
  have h : (Op.equalIn Op.maxDepth 78 (.agg #[.string s, vi y]) (.agg #[.string s, vi y])).run Yba.prog W = .ok true W := place_same 9998 s y W
  simp [binOp, Op.equal, h]

/-! ### the legs by index -/
theorem flat5 (f : Leg → List Value) (hf : ∀ l, (f l).length = 5) : ∀ (ls : List Leg) (k : Nat) (l : Leg), ls[k]? = some l → ∀ j, j < 5 → (ls.flatMap f)[k * 5 + j]? = (f l)[j]?
  | [], k, l, h, j, hj => by simp at h
  | x :: ls, 0, l, h, j, hj => by
    simp at h; subst h
    simp only [List.flatMap_cons, Nat.zero_mul, Nat.zero_add]
    rw [List.getElem?_append_left (by rw [hf]; exact hj)]
  | x :: ls, k + 1, l, h, j, hj => by
    simp at h
    simp only [List.flatMap_cons]
    rw [List.getElem?_append_right (by rw [hf]; omega), hf, show (k + 1) * 5 + j - 5 = k * 5 + j by omega]
    exact flat5 f hf ls k l h j hj
theorem legsR_get {pts : Nat → Nat} {ls : List Leg} {k : Nat} {l : Leg} (h : ls[k]? = some l) (j : Nat) (hj : j < 5) : (legsR pts ls)[k * 5 + j]? = (legR pts l)[j]? := flat5 _ (fun _ => rfl) ls k l h j hj
theorem legsM_get {ls : List Leg} {k : Nat} {l : Leg} (h : ls[k]? = some l) (j : Nat) (hj : j < 5) : (legsM ls)[k * 5 + j]? = (legM l)[j]? := flat5 _ (fun _ => rfl) ls k l h j hj
end Go.Proofs.Ybulkeaca.CW
