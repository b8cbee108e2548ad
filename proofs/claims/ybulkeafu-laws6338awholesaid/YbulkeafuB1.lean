import Derived.Test.YbulkeafuRows
import Derived.Test.YbulkeafuKeep
import Derived.Stop.LaidErr
import Derived.Deep.RegionWith
import Derived.Deep.DeepCutAuto
import Derived.Laws.StructEq
namespace Go.Proofs.Ybulkeafu.BW
open Go.RowKit Go.Proofs.Ybulkeafu.Kit

/-! ### rows told by a function of the place -/
def rowF (n : Nat) (f : Nat → Value) : List Value := (List.range n).map f
theorem rowF_length (n : Nat) (f : Nat → Value) : (rowF n f).length = n := by simp [rowF]
theorem rowF_get {n : Nat} {f : Nat → Value} {i : Nat} (h : i < n) : (rowF n f)[i]? = some (f i) := by simp [rowF, h]
theorem rowF_congr {n : Nat} {f g : Nat → Value} (h : ∀ i, i < n → f i = g i) : rowF n f = rowF n g := by
  unfold rowF; exact List.map_congr_left (fun i hi => h i (by simpa using hi))
theorem rowF_set (n : Nat) (f : Nat → Value) (k : Nat) (v : Value) : (rowF n f).set k v = rowF n (fun i => if i = k then v else f i) := by
  apply List.ext_getElem?
  intro i
  rw [List.getElem?_set]
  by_cases hi : i < n
  · rw [rowF_get (f := fun i => if i = k then v else f i) hi]
    by_cases hk : k = i
    · subst hk; simp [rowF_length, hi]
    · rw [if_neg hk, rowF_get hi]; simp [Ne.symm hk]
  · rw [List.getElem?_eq_none (l := rowF n _) (by rw [rowF_length]; omega)]
    rw [List.getElem?_eq_none (by rw [rowF_length]; omega)]
    split
    · rw [rowF_length, if_neg (by omega)]
    · rfl

/-- The answer, as plain Lean. -/
def ans (M : Nat → Int) (prog tag : Int) (ip : Bool) : Int :=
  if tag = 0 ∨ (ip = true ∧ prog ≠ tag) then -1 else if M 0 = tag then 0 else if M 1 = tag then 1 else if M 2 = tag then 2 else if M 3 = tag then 3 else -1

theorem owner_row (t l : Int) (f v1 v2 : Value) (w : World) : Calls Yba.prog 30 #[.agg #[.int .i64 t, f, v1, v2, .int .i64 l]] w fun e w' => e = .returned (.tuple #[.int .i64 t, .int .i64 l]) ∧ Keeps [] w w' := by
  go_enter Yba.func30, Yba.ntmps30
  go_wp2
  go_quiet (fail)
  go_wp2
  go_ret2
  exact ⟨rfl, ((Keeps.refl _ _).alloc _).drewN _⟩
theorem owner_var (t l : Int) (v1 v2 v3 v4 v5 : Value) (w : World) : Calls Yba.prog 31 #[.agg #[.int .i64 t, v1, v2, v3, v4, v5, .int .i64 l]] w fun e w' => e = .returned (.tuple #[.int .i64 t, .int .i64 l]) ∧ Keeps [] w w' := by
  go_enter Yba.func31, Yba.ntmps31
  go_wp2
  go_quiet (fail)
  go_wp2
  go_ret2
  exact ⟨rfl, ((Keeps.refl _ _).alloc _).drewN _⟩
end Go.Proofs.Ybulkeafu.BW
