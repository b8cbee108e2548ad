/-
  No cell of these rows narrows 'for every input' (looked for: loops, veiled, ifaces, maps, wideKeys, modest, calm, conditions, laid).
  DERIVED. THE GIVEN ROWS OF THIS SEAT. 1 by the template 'for every input the law returns true; each argument reads behind the call as it read before'; 0 by the template 'total and deterministic' (their statements: YbulkeafgTotals.lean).
  GIVEN WITH THE SEED: the statements are not yours to turn. If you find one false, say at which input.
  Laid BY PROGRAM, IN A SANDBOX (cutbox-rows.mjs): the forced cells as the released guide's own fill.sh prints them over the translation 861460d70a6bd399… (all of the seat's roots in one cut). By AI agents, Wed Nov 11 2026. No macro, syntax, notation, axiom, sorry.
-/
import Derived.Test.YbulkeafgChecked
import GoSem.Claim
import GoSem.ClaimJoined
import GoSem.ClaimMapViews
import Derived.JoinedTies
import Derived.KernelRfl
namespace Go.Proofs.Ybulkeafg
/- THE CELL 'sum', in the pinned program and in every row, IS THE sha256 OF THE DUMP (.gsa) THAT YbulkeafgProg.lean LOADS. Nothing in Lean hashes anything: it is a label: what it is worth is what the hold of that sum in a sandbox is worth. -/
noncomputable def Yba.pinned : Pinned := { name := "ybulkeafg", sum := "861460d70a6bd3991a5dbc0a585a84a8561c2e425735ecd0095cd3742fec16d3", checked := Yba.checked }
namespace Rows
def none {H : Type} : Left H := { results := [], args := [] }

/-- 'mintcurve.LawS6337CWhole': WHATEVER THE INPUT: true; the input reads as it did. -/
def lawS6337CWholeSpec : ChangeSpec := { name := "lawS6337CWhole", fn := fun _ => fun
  | [d1, d2, d3, d4, d5, d6, d7, d8, d9, d10, d11] => { results := [.lit (.bool true)], args := [d1, d2, d3, d4, d5, d6, d7, d8, d9, d10, d11] }
  | _ => none }
def lawS6337CWholeRow : OpenClaim := { program := "ybulkeafg", sum := "861460d70a6bd3991a5dbc0a585a84a8561c2e425735ecd0095cd3742fec16d3", func := "example.com/mintcurve/mintcurve.LawS6337CWhole", spec := "lawS6337CWhole", inPlace := ["sync/atomic.LoadPointer", "(*internal/sync.Mutex).TryLock", "internal/race.Disable", "internal/race.Enable", "sync/atomic.CompareAndSwapInt32", "internal/race.Acquire", "(*internal/sync.Mutex).Unlock", "internal/race.ReleaseMerge", "sync/atomic.AddInt32", "(*internal/sync.Mutex).unlockSlow", "internal/sync.fatal", "internal/sync.runtime_Semrelease"], unfollowed := true, recurses := true, apart := false }
def LawS6337CWholeSaid : Prop := lawS6337CWholeRow.holds Yba.pinned (OpenSpec.ofChange lawS6337CWholeSpec)

/-- ITS FALSE NEIGHBOUR: 'it returns false'. Refute it at one input. -/
def lawS6337CWholeWrong : ChangeSpec := { name := "lawS6337CWhole", fn := fun _ => fun
  | [d1, d2, d3, d4, d5, d6, d7, d8, d9, d10, d11] => { results := [.lit (.bool false)], args := [d1, d2, d3, d4, d5, d6, d7, d8, d9, d10, d11] }
  | _ => none }
def LawS6337CWholeWrongFalsely : Prop := lawS6337CWholeRow.holds Yba.pinned (OpenSpec.ofChange lawS6337CWholeWrong)

end Rows
end Go.Proofs.Ybulkeafg
