/-
  No cell of these rows narrows 'for every input' (looked for: loops, veiled, ifaces, maps, wideKeys, modest, calm, conditions, laid).
  DERIVED. THE GIVEN ROWS OF THIS SEAT. 2 by the template 'for every input the law returns true; each argument reads behind the call as it read before'; 0 by the template 'total and deterministic' (their statements: YbulkeafuTotals.lean).
  GIVEN WITH THE SEED: the statements are not yours to turn. If you find one false, say at which input.
  Laid BY PROGRAM, IN A SANDBOX (cutbox-rows.mjs): the forced cells as the released guide's own fill.sh prints them over the translation cd5e5c1c244790de… (all of the seat's roots in one cut). By AI agents, Wed Nov 11 2026. No macro, syntax, notation, axiom, sorry.
-/
import Derived.Test.YbulkeafuChecked
import GoSem.Claim
import GoSem.ClaimJoined
import GoSem.ClaimMapViews
import Derived.JoinedTies
import Derived.KernelRfl
namespace Go.Proofs.Ybulkeafu
/- THE CELL 'sum', in the pinned program and in every row, IS THE sha256 OF THE DUMP (.gsa) THAT YbulkeafuProg.lean LOADS. Nothing in Lean hashes anything: it is a label: what it is worth is what the hold of that sum in a sandbox is worth. -/
noncomputable def Yba.pinned : Pinned := { name := "ybulkeafu", sum := "cd5e5c1c244790debc77c48e44667a4a8258834ebc04d17d1d770146caad3745", checked := Yba.checked }
namespace Rows
def none {H : Type} : Left H := { results := [], args := [] }

/-- 'engine.LawS6338AWhole': WHATEVER THE INPUT: true; the input reads as it did. -/
def lawS6338AWholeSpec : ChangeSpec := { name := "lawS6338AWhole", fn := fun _ => fun
  | [d1, d2, d3] => { results := [.lit (.bool true)], args := [d1, d2, d3] }
  | _ => none }
def lawS6338AWholeRow : OpenClaim := { program := "ybulkeafu", sum := "cd5e5c1c244790debc77c48e44667a4a8258834ebc04d17d1d770146caad3745", func := "example.com/slicewise/slicewise/pkg/engine.LawS6338AWhole", spec := "lawS6338AWhole", recurses := true, apart := false }
def LawS6338AWholeSaid : Prop := lawS6338AWholeRow.holds Yba.pinned (OpenSpec.ofChange lawS6338AWholeSpec)

/-- ITS FALSE NEIGHBOUR: 'it returns false'. Refute it at one input. -/
def lawS6338AWholeWrong : ChangeSpec := { name := "lawS6338AWhole", fn := fun _ => fun
  | [d1, d2, d3] => { results := [.lit (.bool false)], args := [d1, d2, d3] }
  | _ => none }
def LawS6338AWholeWrongFalsely : Prop := lawS6338AWholeRow.holds Yba.pinned (OpenSpec.ofChange lawS6338AWholeWrong)

/-- 'lp.LawS6338BPart': WHATEVER THE INPUT: true; the input reads as it did. -/
def lawS6338BPartSpec : ChangeSpec := { name := "lawS6338BPart", fn := fun _ => fun
  | [d1, d2, d3, d4, d5, d6] => { results := [.lit (.bool true)], args := [d1, d2, d3, d4, d5, d6] }
  | _ => none }
def lawS6338BPartRow : OpenClaim := { program := "ybulkeafu", sum := "cd5e5c1c244790debc77c48e44667a4a8258834ebc04d17d1d770146caad3745", func := "example.com/slicewise/slicewise/pkg/lp.LawS6338BPart", spec := "lawS6338BPart", unfollowed := true, recurses := true, apart := false }
def LawS6338BPartSaid : Prop := lawS6338BPartRow.holds Yba.pinned (OpenSpec.ofChange lawS6338BPartSpec)

/-- ITS FALSE NEIGHBOUR: 'it returns false'. Refute it at one input. -/
def lawS6338BPartWrong : ChangeSpec := { name := "lawS6338BPart", fn := fun _ => fun
  | [d1, d2, d3, d4, d5, d6] => { results := [.lit (.bool false)], args := [d1, d2, d3, d4, d5, d6] }
  | _ => none }
def LawS6338BPartWrongFalsely : Prop := lawS6338BPartRow.holds Yba.pinned (OpenSpec.ofChange lawS6338BPartWrong)

end Rows
end Go.Proofs.Ybulkeafu
