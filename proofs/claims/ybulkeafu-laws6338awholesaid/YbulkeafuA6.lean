import Derived.Test.YbulkeafuA3
namespace Go.Proofs.Ybulkeafu.TW
open Go.RowKit Go.Proofs.Ybulkeafu.Kit Go.Proofs.Ybulkeafu.BW

set_option maxRecDepth 100000 in
theorem law_big (a0 : Option Addr) (n cap0 : Nat) (v1 v2 : Value) (w : World) (hn : 4096 < n) :
    Calls Yba.prog 3 #[.slice a0 n cap0, v1, v2] w fun e w' => e = .returned (.bool true) ∧ Below w.heap.size w w' := by
  have h : (4096 : Int) < n := by omega
  go_enter Yba.func3, Yba.ntmps3
  go_wp2_with fail
  go_ret
  exact ⟨rfl, Below.refl _ _⟩
end Go.Proofs.Ybulkeafu.TW
