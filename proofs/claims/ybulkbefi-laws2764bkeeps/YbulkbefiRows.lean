/-
  No cell of these rows narrows 'for every input' (looked for: loops, veiled, ifaces, maps, wideKeys, modest, calm, conditions, laid).
  DERIVED. THE GIVEN ROWS OF THIS SEAT. 2 by the template 'for every input the law returns true; each argument reads behind the call as it read before'; 0 by the template 'total and deterministic' (their statements: YbulkbefiTotals.lean).
  GIVEN WITH THE SEED: the statements are not yours to turn. If you find one false, say at which input.
  Laid BY PROGRAM, IN A SANDBOX (cutbox-rows.mjs): the forced cells as the released guide's own fill.sh prints them over the translation b563f18b753e1b1c… (all of the seat's roots in one cut). By AI agents, Wed Nov 11 2026. No macro, syntax, notation, axiom, sorry.
-/
import Derived.Test.YbulkbefiChecked
import GoSem.Claim
import GoSem.ClaimJoined
import GoSem.ClaimMapViews
import Derived.JoinedTies
import Derived.KernelRfl
namespace Go.Proofs.Ybulkbefi
/- THE CELL 'sum', in the pinned program and in every row, IS THE sha256 OF THE DUMP (.gsa) THAT YbulkbefiProg.lean LOADS. Nothing in Lean hashes anything: it is a label: what it is worth is what the hold of that sum in a sandbox is worth. -/
noncomputable def Yba.pinned : Pinned := { name := "ybulkbefi", sum := "b563f18b753e1b1c6ca48f448306b98052f143d6313945630595c74710e8d3c8", checked := Yba.checked }
namespace Rows
def none {H : Type} : Left H := { results := [], args := [] }

/-- 'membership.LawS2764BKeeps': WHATEVER THE INPUT: true; the input reads as it did. -/
def lawS2764BKeepsSpec : ChangeSpec := { name := "lawS2764BKeeps", fn := fun _ => fun
  | [d1, d2] => { results := [.lit (.bool true)], args := [d1, d2] }
  | _ => none }
def lawS2764BKeepsRow : OpenClaim := { program := "ybulkbefi", sum := "b563f18b753e1b1c6ca48f448306b98052f143d6313945630595c74710e8d3c8", func := "example.com/heartline/heartline/internal/membership.LawS2764BKeeps", spec := "lawS2764BKeeps", unfollowed := true, recurses := true, apart := false }
def LawS2764BKeepsSaid : Prop := lawS2764BKeepsRow.holds Yba.pinned (OpenSpec.ofChange lawS2764BKeepsSpec)

/-- ITS FALSE NEIGHBOUR: 'it returns false'. Refute it at one input. -/
def lawS2764BKeepsWrong : ChangeSpec := { name := "lawS2764BKeeps", fn := fun _ => fun
  | [d1, d2] => { results := [.lit (.bool false)], args := [d1, d2] }
  | _ => none }
def LawS2764BKeepsWrongFalsely : Prop := lawS2764BKeepsRow.holds Yba.pinned (OpenSpec.ofChange lawS2764BKeepsWrong)

/-- 'membership.LawS2764BReads': WHATEVER THE INPUT: true; the input reads as it did. -/
def lawS2764BReadsSpec : ChangeSpec := { name := "lawS2764BReads", fn := fun _ => fun
  | [d1, d2, d3] => { results := [.lit (.bool true)], args := [d1, d2, d3] }
  | _ => none }
def lawS2764BReadsRow : OpenClaim := { program := "ybulkbefi", sum := "b563f18b753e1b1c6ca48f448306b98052f143d6313945630595c74710e8d3c8", func := "example.com/heartline/heartline/internal/membership.LawS2764BReads", spec := "lawS2764BReads", unfollowed := true, recurses := true, apart := false }
def LawS2764BReadsSaid : Prop := lawS2764BReadsRow.holds Yba.pinned (OpenSpec.ofChange lawS2764BReadsSpec)

/-- ITS FALSE NEIGHBOUR: 'it returns false'. Refute it at one input. -/
def lawS2764BReadsWrong : ChangeSpec := { name := "lawS2764BReads", fn := fun _ => fun
  | [d1, d2, d3] => { results := [.lit (.bool false)], args := [d1, d2, d3] }
  | _ => none }
def LawS2764BReadsWrongFalsely : Prop := lawS2764BReadsRow.holds Yba.pinned (OpenSpec.ofChange lawS2764BReadsWrong)

end Rows
end Go.Proofs.Ybulkbefi
