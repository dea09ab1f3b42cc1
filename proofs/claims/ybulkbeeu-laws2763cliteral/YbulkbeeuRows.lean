/-
  No cell of these rows narrows 'for every input' (looked for: loops, veiled, ifaces, maps, wideKeys, modest, calm, conditions, laid).
  DERIVED. THE GIVEN ROWS OF THIS SEAT. 2 by the template 'for every input the law returns true; each argument reads behind the call as it read before'; 0 by the template 'total and deterministic' (their statements: YbulkbeeuTotals.lean).
  GIVEN WITH THE SEED: the statements are not yours to turn. If you find one false, say at which input.
  Laid BY PROGRAM, IN A SANDBOX (cutbox-rows.mjs): the forced cells as the released guide's own fill.sh prints them over the translation 5a65a6a0bbcfd228… (all of the seat's roots in one cut). By AI agents, Wed Nov 11 2026. No macro, syntax, notation, axiom, sorry.
-/
import Derived.Test.YbulkbeeuChecked
import GoSem.Claim
import GoSem.ClaimJoined
import GoSem.ClaimMapViews
import Derived.JoinedTies
import Derived.KernelRfl
namespace Go.Proofs.Ybulkbeeu
/- THE CELL 'sum', in the pinned program and in every row, IS THE sha256 OF THE DUMP (.gsa) THAT YbulkbeeuProg.lean LOADS. Nothing in Lean hashes anything: it is a label: what it is worth is what the hold of that sum in a sandbox is worth. -/
noncomputable def Yba.pinned : Pinned := { name := "ybulkbeeu", sum := "5a65a6a0bbcfd228b38af8bf4225caed99cd9297594d711421378592d75cb559", checked := Yba.checked }
namespace Rows
def none {H : Type} : Left H := { results := [], args := [] }

/-- 'rules-to-tree.LawS2763CLiteral': WHATEVER THE INPUT: true; the input reads as it did. -/
def lawS2763CLiteralSpec : ChangeSpec := { name := "lawS2763CLiteral", fn := fun _ => fun
  | [d1, d2, d3] => { results := [.lit (.bool true)], args := [d1, d2, d3] }
  | _ => none }
def lawS2763CLiteralRow : OpenClaim := { program := "ybulkbeeu", sum := "5a65a6a0bbcfd228b38af8bf4225caed99cd9297594d711421378592d75cb559", func := "example.com/rules-to-tree/rules-to-tree.LawS2763CLiteral", spec := "lawS2763CLiteral", unfollowed := true, recurses := true, apart := false }
def LawS2763CLiteralSaid : Prop := lawS2763CLiteralRow.holds Yba.pinned (OpenSpec.ofChange lawS2763CLiteralSpec)

/-- ITS FALSE NEIGHBOUR: 'it returns false'. Refute it at one input. -/
def lawS2763CLiteralWrong : ChangeSpec := { name := "lawS2763CLiteral", fn := fun _ => fun
  | [d1, d2, d3] => { results := [.lit (.bool false)], args := [d1, d2, d3] }
  | _ => none }
def LawS2763CLiteralWrongFalsely : Prop := lawS2763CLiteralRow.holds Yba.pinned (OpenSpec.ofChange lawS2763CLiteralWrong)

/-- 'rules-to-tree.LawS2763CSymmetric': WHATEVER THE INPUT: true; the input reads as it did. -/
def lawS2763CSymmetricSpec : ChangeSpec := { name := "lawS2763CSymmetric", fn := fun _ => fun
  | [d1, d2] => { results := [.lit (.bool true)], args := [d1, d2] }
  | _ => none }
def lawS2763CSymmetricRow : OpenClaim := { program := "ybulkbeeu", sum := "5a65a6a0bbcfd228b38af8bf4225caed99cd9297594d711421378592d75cb559", func := "example.com/rules-to-tree/rules-to-tree.LawS2763CSymmetric", spec := "lawS2763CSymmetric", unfollowed := true, recurses := true, apart := false }
def LawS2763CSymmetricSaid : Prop := lawS2763CSymmetricRow.holds Yba.pinned (OpenSpec.ofChange lawS2763CSymmetricSpec)

/-- ITS FALSE NEIGHBOUR: 'it returns false'. Refute it at one input. -/
def lawS2763CSymmetricWrong : ChangeSpec := { name := "lawS2763CSymmetric", fn := fun _ => fun
  | [d1, d2] => { results := [.lit (.bool false)], args := [d1, d2] }
  | _ => none }
def LawS2763CSymmetricWrongFalsely : Prop := lawS2763CSymmetricRow.holds Yba.pinned (OpenSpec.ofChange lawS2763CSymmetricWrong)

end Rows
end Go.Proofs.Ybulkbeeu
