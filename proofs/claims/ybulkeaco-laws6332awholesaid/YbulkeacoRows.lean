/-
  No cell of these rows narrows 'for every input' (looked for: loops, veiled, ifaces, maps, wideKeys, modest, calm, conditions, laid).
  DERIVED. THE GIVEN ROWS OF THIS SEAT. 2 by the template 'for every input the law returns true; each argument reads behind the call as it read before'; 0 by the template 'total and deterministic' (their statements: YbulkeacoTotals.lean).
  GIVEN WITH THE SEED: the statements are not yours to turn. If you find one false, say at which input.
  Laid BY PROGRAM, IN A SANDBOX (cutbox-rows.mjs): the forced cells as the released guide's own fill.sh prints them over the translation 7d0471b5d7b38a88… (all of the seat's roots in one cut). By AI agents, Wed Nov 11 2026. No macro, syntax, notation, axiom, sorry.
-/
import Derived.Test.YbulkeacoChecked
import GoSem.Claim
import GoSem.ClaimJoined
import GoSem.ClaimMapViews
import Derived.JoinedTies
import Derived.KernelRfl
namespace Go.Proofs.Ybulkeaco
/- THE CELL 'sum', in the pinned program and in every row, IS THE sha256 OF THE DUMP (.gsa) THAT YbulkeacoProg.lean LOADS. Nothing in Lean hashes anything: it is a label: what it is worth is what the hold of that sum in a sandbox is worth. -/
noncomputable def Yba.pinned : Pinned := { name := "ybulkeaco", sum := "7d0471b5d7b38a8817c8d143e506072332ce40eb873b2875b21b8bf7a4488fb4", checked := Yba.checked }
namespace Rows
def none {H : Type} : Left H := { results := [], args := [] }

/-- 'catalogue.LawS6332AWhole': WHATEVER THE INPUT: true; the input reads as it did. -/
def lawS6332AWholeSpec : ChangeSpec := { name := "lawS6332AWhole", fn := fun _ => fun
  | [d1, d2, d3, d4] => { results := [.lit (.bool true)], args := [d1, d2, d3, d4] }
  | _ => none }
def lawS6332AWholeRow : OpenClaim := { program := "ybulkeaco", sum := "7d0471b5d7b38a8817c8d143e506072332ce40eb873b2875b21b8bf7a4488fb4", func := "example.com/roundwise/roundwise/catalogue.LawS6332AWhole", spec := "lawS6332AWhole", inPlace := ["internal/abi.NoEscape", "internal/bytealg.MakeNoZero"], named := ["encoding/binary.LittleEndian"], apart := false }
def LawS6332AWholeSaid : Prop := lawS6332AWholeRow.holds Yba.pinned (OpenSpec.ofChange lawS6332AWholeSpec)

/-- ITS FALSE NEIGHBOUR: 'it returns false'. Refute it at one input. -/
def lawS6332AWholeWrong : ChangeSpec := { name := "lawS6332AWhole", fn := fun _ => fun
  | [d1, d2, d3, d4] => { results := [.lit (.bool false)], args := [d1, d2, d3, d4] }
  | _ => none }
def LawS6332AWholeWrongFalsely : Prop := lawS6332AWholeRow.holds Yba.pinned (OpenSpec.ofChange lawS6332AWholeWrong)

/-- 'roundwise.LawS6332BWhole': WHATEVER THE INPUT: true; the input reads as it did. -/
def lawS6332BWholeSpec : ChangeSpec := { name := "lawS6332BWhole", fn := fun _ => fun
  | [d1, d2] => { results := [.lit (.bool true)], args := [d1, d2] }
  | _ => none }
def lawS6332BWholeRow : OpenClaim := { program := "ybulkeaco", sum := "7d0471b5d7b38a8817c8d143e506072332ce40eb873b2875b21b8bf7a4488fb4", func := "example.com/roundwise/roundwise.LawS6332BWhole", spec := "lawS6332BWhole", apart := false }
def LawS6332BWholeSaid : Prop := lawS6332BWholeRow.holds Yba.pinned (OpenSpec.ofChange lawS6332BWholeSpec)

/-- ITS FALSE NEIGHBOUR: 'it returns false'. Refute it at one input. -/
def lawS6332BWholeWrong : ChangeSpec := { name := "lawS6332BWhole", fn := fun _ => fun
  | [d1, d2] => { results := [.lit (.bool false)], args := [d1, d2] }
  | _ => none }
def LawS6332BWholeWrongFalsely : Prop := lawS6332BWholeRow.holds Yba.pinned (OpenSpec.ofChange lawS6332BWholeWrong)

end Rows
end Go.Proofs.Ybulkeaco
