/-
  No cell of these rows narrows 'for every input' (looked for: loops, veiled, ifaces, maps, wideKeys, modest, calm, conditions, laid).
  DERIVED. THE GIVEN ROWS OF THIS SEAT. 3 by the template 'for every input the law returns true; each argument reads behind the call as it read before'; 0 by the template 'total and deterministic' (their statements: YbulkbeboTotals.lean).
  GIVEN WITH THE SEED: the statements are not yours to turn. If you find one false, say at which input.
  Laid BY PROGRAM, IN A SANDBOX (cutbox-rows.mjs): the forced cells as the released guide's own fill.sh prints them over the translation 5b68dbe6c70ad017… (all of the seat's roots in one cut). By AI agents, Wed Nov 11 2026. No macro, syntax, notation, axiom, sorry.
-/
import Derived.Test.YbulkbeboChecked
import GoSem.Claim
import GoSem.ClaimJoined
import GoSem.ClaimMapViews
import Derived.JoinedTies
import Derived.KernelRfl
namespace Go.Proofs.Ybulkbebo
/- THE CELL 'sum', in the pinned program and in every row, IS THE sha256 OF THE DUMP (.gsa) THAT YbulkbeboProg.lean LOADS. Nothing in Lean hashes anything: it is a label: what it is worth is what the hold of that sum in a sandbox is worth. -/
noncomputable def Yba.pinned : Pinned := { name := "ybulkbebo", sum := "5b68dbe6c70ad01789d41e3cbde6ed93cc4dcc699f6164db476ab797424532c5", checked := Yba.checked }
namespace Rows
def none {H : Type} : Left H := { results := [], args := [] }

/-- 'lwg.LawS2757AText': WHATEVER THE INPUT: true; the input reads as it did. -/
def lawS2757ATextSpec : ChangeSpec := { name := "lawS2757AText", fn := fun _ => fun
  | [d1, d2, d3, d4] => { results := [.lit (.bool true)], args := [d1, d2, d3, d4] }
  | _ => none }
def lawS2757ATextRow : OpenClaim := { program := "ybulkbebo", sum := "5b68dbe6c70ad01789d41e3cbde6ed93cc4dcc699f6164db476ab797424532c5", func := "example.com/mutandis/mutandis/internal/lwg.LawS2757AText", spec := "lawS2757AText", inPlace := ["internal/abi.NoEscape"], unfollowed := true, recurses := true, apart := false }
def LawS2757ATextSaid : Prop := lawS2757ATextRow.holds Yba.pinned (OpenSpec.ofChange lawS2757ATextSpec)

/-- ITS FALSE NEIGHBOUR: 'it returns false'. Refute it at one input. -/
def lawS2757ATextWrong : ChangeSpec := { name := "lawS2757AText", fn := fun _ => fun
  | [d1, d2, d3, d4] => { results := [.lit (.bool false)], args := [d1, d2, d3, d4] }
  | _ => none }
def LawS2757ATextWrongFalsely : Prop := lawS2757ATextRow.holds Yba.pinned (OpenSpec.ofChange lawS2757ATextWrong)

/-- 'lwg.LawS2757ACalls': WHATEVER THE INPUT: true; the input reads as it did. -/
def lawS2757ACallsSpec : ChangeSpec := { name := "lawS2757ACalls", fn := fun _ => fun
  | [d1, d2, d3] => { results := [.lit (.bool true)], args := [d1, d2, d3] }
  | _ => none }
def lawS2757ACallsRow : OpenClaim := { program := "ybulkbebo", sum := "5b68dbe6c70ad01789d41e3cbde6ed93cc4dcc699f6164db476ab797424532c5", func := "example.com/mutandis/mutandis/internal/lwg.LawS2757ACalls", spec := "lawS2757ACalls", inPlace := ["internal/abi.NoEscape"], unfollowed := true, recurses := true, apart := false }
def LawS2757ACallsSaid : Prop := lawS2757ACallsRow.holds Yba.pinned (OpenSpec.ofChange lawS2757ACallsSpec)

/-- ITS FALSE NEIGHBOUR: 'it returns false'. Refute it at one input. -/
def lawS2757ACallsWrong : ChangeSpec := { name := "lawS2757ACalls", fn := fun _ => fun
  | [d1, d2, d3] => { results := [.lit (.bool false)], args := [d1, d2, d3] }
  | _ => none }
def LawS2757ACallsWrongFalsely : Prop := lawS2757ACallsRow.holds Yba.pinned (OpenSpec.ofChange lawS2757ACallsWrong)

/-- 'types.LawS2757BSubst': WHATEVER THE INPUT: true; the input reads as it did. -/
def lawS2757BSubstSpec : ChangeSpec := { name := "lawS2757BSubst", fn := fun _ => fun
  | [d1, d2] => { results := [.lit (.bool true)], args := [d1, d2] }
  | _ => none }
def lawS2757BSubstRow : OpenClaim := { program := "ybulkbebo", sum := "5b68dbe6c70ad01789d41e3cbde6ed93cc4dcc699f6164db476ab797424532c5", func := "example.com/mutandis/mutandis/internal/types.LawS2757BSubst", spec := "lawS2757BSubst", unfollowed := true, recurses := true, apart := false }
def LawS2757BSubstSaid : Prop := lawS2757BSubstRow.holds Yba.pinned (OpenSpec.ofChange lawS2757BSubstSpec)

/-- ITS FALSE NEIGHBOUR: 'it returns false'. Refute it at one input. -/
def lawS2757BSubstWrong : ChangeSpec := { name := "lawS2757BSubst", fn := fun _ => fun
  | [d1, d2] => { results := [.lit (.bool false)], args := [d1, d2] }
  | _ => none }
def LawS2757BSubstWrongFalsely : Prop := lawS2757BSubstRow.holds Yba.pinned (OpenSpec.ofChange lawS2757BSubstWrong)

end Rows
end Go.Proofs.Ybulkbebo
