import Derived.Test.YbulkeacaC4
import Derived.Deep.QuietTactic
import Derived.BigQuiet
namespace Go.Proofs.Ybulkeaca.CW
open Go.RowKit Go.Proofs.Ybulkeaca.Kit

abbrev str (l : List UInt8) : Value := .string ⟨l.toArray⟩
def diagCells : List Value := [.string .empty, vi 0, str [101, 114, 114, 111, 114], str [105, 110, 99, 108, 117, 100, 101, 45, 116, 111, 111, 45, 100, 101, 101, 112], .string .empty, .slice none 0 0, .slice none 0 0]
abbrev werr (db cb : Nat) : Value := .agg #[pt db, .pointer none, vi 0, pt cb, vi 0]
theorem results5 {W : World} {A : Nat} {a b c d e : Value} (hrow : Row W A 86 [a, b, c, d, e]) (tmps : Array Value) (h4 : tmps.getD 2 undef = .pointer (some ⟨A, 0, none⟩)) :
    (results Yba.f5 tmps).run Yba.prog W = .ok (.agg #[a, b, c, d, e]) W := by
  have hv := run_loadVar_row (P := Yba.prog) W A 86 86 #[a, b, c, d, e] (0, 0) _ hrow Yba.underlying86 rfl (by kernel_rfl)
  simp at h4
  simp [results, h4, asAddr, hv]
theorem results4 {W : World} {A : Nat} {a b c d e : Value} (hrow : Row W A 86 [a, b, c, d, e]) (tmps : Array Value) (h4 : tmps.getD 4 undef = .pointer (some ⟨A, 0, none⟩)) :
    (results Yba.f4 tmps).run Yba.prog W = .ok (.agg #[a, b, c, d, e]) W := by
  have hv := run_loadVar_row (P := Yba.prog) W A 86 86 #[a, b, c, d, e] (0, 0) _ hrow Yba.underlying86 rfl (by kernel_rfl)
  simp at h4
  simp [results, h4, asAddr, hv]

set_option maxRecDepth 100000 in
theorem chainError_any (cb : Nat) (w : World) : Calls Yba.prog 5 #[pt cb] w fun e w' => ∃ db, e = .returned (werr db cb) ∧ w.heap.size ≤ db ∧ Row w' db 94 diagCells ∧ Keeps [] w w' := by
  go_enter Yba.func5, Yba.ntmps5
  go_wp2_with fail
  refine bodyPost_ret (results5 ((Row.new w 86 [pt (w.heap.size + 1), .pointer none, vi 0, pt cb, vi 0]).alloc _) _ rfl) rfl ?_
  exact ⟨w.heap.size + 1, rfl, by omega, Row.new' _ 94 diagCells (by simp), ((Keeps.refl [] w).alloc _).alloc _⟩
end Go.Proofs.Ybulkeaca.CW
