/-
  No cell of these rows narrows 'for every input' (looked for: loops, veiled, ifaces, maps, wideKeys, modest, calm, conditions, laid).
  DERIVED. THE GIVEN ROWS OF THIS SEAT. 1 by the template 'for every input the law returns true; each argument reads behind the call as it read before'; 0 by the template 'total and deterministic' (their statements: YbulkbedsTotals.lean).
  GIVEN WITH THE SEED: the statements are not yours to turn. If you find one false, say at which input.
  Laid BY PROGRAM, IN A SANDBOX (cutbox-rows.mjs): the forced cells as the released guide's own fill.sh prints them over the translation a07df387d04febe2… (all of the seat's roots in one cut). By AI agents, Wed Nov 11 2026. No macro, syntax, notation, axiom, sorry.
-/
import Derived.Test.YbulkbedsChecked
import GoSem.Claim
import GoSem.ClaimJoined
import GoSem.ClaimMapViews
import Derived.JoinedTies
import Derived.KernelRfl
namespace Go.Proofs.Ybulkbeds
/- THE CELL 'sum', in the pinned program and in every row, IS THE sha256 OF THE DUMP (.gsa) THAT YbulkbedsProg.lean LOADS. Nothing in Lean hashes anything: it is a label: what it is worth is what the hold of that sum in a sandbox is worth. -/
noncomputable def Yba.pinned : Pinned := { name := "ybulkbeds", sum := "a07df387d04febe2b010f1fcbfb219aa33ca23d417176eab189add60a49253d1", checked := Yba.checked }
namespace Rows
def none {H : Type} : Left H := { results := [], args := [] }

/-- 'query.LawS2761CAppends': WHATEVER THE INPUT: true; the input reads as it did. -/
def lawS2761CAppendsSpec : ChangeSpec := { name := "lawS2761CAppends", fn := fun _ => fun
  | [d1, d2, d3] => { results := [.lit (.bool true)], args := [d1, d2, d3] }
  | _ => none }
def lawS2761CAppendsRow : OpenClaim := { program := "ybulkbeds", sum := "a07df387d04febe2b010f1fcbfb219aa33ca23d417176eab189add60a49253d1", func := "example.com/nameweft/nameweft/internal/query.LawS2761CAppends", spec := "lawS2761CAppends", apart := false }
def LawS2761CAppendsSaid : Prop := lawS2761CAppendsRow.holds Yba.pinned (OpenSpec.ofChange lawS2761CAppendsSpec)

/-- ITS FALSE NEIGHBOUR: 'it returns false'. Refute it at one input. -/
def lawS2761CAppendsWrong : ChangeSpec := { name := "lawS2761CAppends", fn := fun _ => fun
  | [d1, d2, d3] => { results := [.lit (.bool false)], args := [d1, d2, d3] }
  | _ => none }
def LawS2761CAppendsWrongFalsely : Prop := lawS2761CAppendsRow.holds Yba.pinned (OpenSpec.ofChange lawS2761CAppendsWrong)

end Rows
end Go.Proofs.Ybulkbeds
