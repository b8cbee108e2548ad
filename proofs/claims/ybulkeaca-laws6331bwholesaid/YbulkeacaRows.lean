/-
  No cell of these rows narrows 'for every input' (looked for: loops, veiled, ifaces, maps, wideKeys, modest, calm, conditions, laid).
  DERIVED. THE GIVEN ROWS OF THIS SEAT. 1 by the template 'for every input the law returns true; each argument reads behind the call as it read before'; 0 by the template 'total and deterministic' (their statements: YbulkeacaTotals.lean).
  GIVEN WITH THE SEED: the statements are not yours to turn. If you find one false, say at which input.
  Laid BY PROGRAM, IN A SANDBOX (cutbox-rows.mjs): the forced cells as the released guide's own fill.sh prints them over the translation 00d1effcda49d158… (all of the seat's roots in one cut). By AI agents, Wed Nov 11 2026. No macro, syntax, notation, axiom, sorry.
-/
import Derived.Test.YbulkeacaChecked
import GoSem.Claim
import GoSem.ClaimJoined
import GoSem.ClaimMapViews
import Derived.JoinedTies
import Derived.KernelRfl
namespace Go.Proofs.Ybulkeaca
/- THE CELL 'sum', in the pinned program and in every row, IS THE sha256 OF THE DUMP (.gsa) THAT YbulkeacaProg.lean LOADS. Nothing in Lean hashes anything: it is a label: what it is worth is what the hold of that sum in a sandbox is worth. -/
noncomputable def Yba.pinned : Pinned := { name := "ybulkeaca", sum := "00d1effcda49d1583dcc0b60fe859c24783aa8e049c85e42228023a83a62624c", checked := Yba.checked }
namespace Rows
def none {H : Type} : Left H := { results := [], args := [] }

/-- 'hba.LawS6331BWhole': WHATEVER THE INPUT: true; the input reads as it did. -/
def lawS6331BWholeSpec : ChangeSpec := { name := "lawS6331BWhole", fn := fun _ => fun
  | [d] => { results := [.lit (.bool true)], args := [d] }
  | _ => none }
def lawS6331BWholeRow : OpenClaim := { program := "ybulkeaca", sum := "00d1effcda49d1583dcc0b60fe859c24783aa8e049c85e42228023a83a62624c", func := "example.com/hbalint/hbalint/hba.LawS6331BWhole", spec := "lawS6331BWhole", plainKeys := false, apart := false }
def LawS6331BWholeSaid : Prop := lawS6331BWholeRow.holds Yba.pinned (OpenSpec.ofChange lawS6331BWholeSpec)

/-- ITS FALSE NEIGHBOUR: 'it returns false'. Refute it at one input. -/
def lawS6331BWholeWrong : ChangeSpec := { name := "lawS6331BWhole", fn := fun _ => fun
  | [d] => { results := [.lit (.bool false)], args := [d] }
  | _ => none }
def LawS6331BWholeWrongFalsely : Prop := lawS6331BWholeRow.holds Yba.pinned (OpenSpec.ofChange lawS6331BWholeWrong)

end Rows
end Go.Proofs.Ybulkeaca
