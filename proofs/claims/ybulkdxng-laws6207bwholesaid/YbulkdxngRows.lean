/-
  No cell of these rows narrows 'for every input' (looked for: loops, veiled, ifaces, maps, wideKeys, modest, calm, conditions, laid).
  DERIVED. THE GIVEN ROWS OF THIS SEAT. 2 by the template 'for every input the law returns true; each argument reads behind the call as it read before'; 0 by the template 'total and deterministic' (their statements: YbulkdxngTotals.lean).
  GIVEN WITH THE SEED: the statements are not yours to turn. If you find one false, say at which input.
  Laid BY PROGRAM, IN A SANDBOX (cutbox-rows.mjs): the forced cells as the released guide's own fill.sh prints them over the translation 5973e7248e47322b… (all of the seat's roots in one cut). By AI agents, Wed Nov 11 2026. No macro, syntax, notation, axiom, sorry.
-/
import Derived.Test.YbulkdxngChecked
import GoSem.Claim
import GoSem.ClaimJoined
import GoSem.ClaimMapViews
import Derived.JoinedTies
import Derived.KernelRfl
namespace Go.Proofs.Ybulkdxng
/- THE CELL 'sum', in the pinned program and in every row, IS THE sha256 OF THE DUMP (.gsa) THAT YbulkdxngProg.lean LOADS. Nothing in Lean hashes anything: it is a label: what it is worth is what the hold of that sum in a sandbox is worth. -/
noncomputable def Yba.pinned : Pinned := { name := "ybulkdxng", sum := "5973e7248e47322b3ee22f560ae53c07fccc162b10e9d35bcb475ae811475676", checked := Yba.checked }
namespace Rows
def none {H : Type} : Left H := { results := [], args := [] }

/-- 'planner.LawS6207BWhole': WHATEVER THE INPUT: true; the input reads as it did. -/
def lawS6207BWholeSpec : ChangeSpec := { name := "lawS6207BWhole", fn := fun _ => fun
  | [d1, d2, d3] => { results := [.lit (.bool true)], args := [d1, d2, d3] }
  | _ => none }
def lawS6207BWholeRow : OpenClaim := { program := "ybulkdxng", sum := "5973e7248e47322b3ee22f560ae53c07fccc162b10e9d35bcb475ae811475676", func := "example.com/evenkeel/evenkeel/internal/planner.LawS6207BWhole", spec := "lawS6207BWhole", unfollowed := true, recurses := true, apart := false }
def LawS6207BWholeSaid : Prop := lawS6207BWholeRow.holds Yba.pinned (OpenSpec.ofChange lawS6207BWholeSpec)

/-- ITS FALSE NEIGHBOUR: 'it returns false'. Refute it at one input. -/
def lawS6207BWholeWrong : ChangeSpec := { name := "lawS6207BWhole", fn := fun _ => fun
  | [d1, d2, d3] => { results := [.lit (.bool false)], args := [d1, d2, d3] }
  | _ => none }
def LawS6207BWholeWrongFalsely : Prop := lawS6207BWholeRow.holds Yba.pinned (OpenSpec.ofChange lawS6207BWholeWrong)

/-- 'jsonnames.LawS6207CWhole': WHATEVER THE INPUT: true; the input reads as it did. -/
def lawS6207CWholeSpec : ChangeSpec := { name := "lawS6207CWhole", fn := fun _ => fun
  | [d1, d2, d3, d4, d5, d6] => { results := [.lit (.bool true)], args := [d1, d2, d3, d4, d5, d6] }
  | _ => none }
def lawS6207CWholeRow : OpenClaim := { program := "ybulkdxng", sum := "5973e7248e47322b3ee22f560ae53c07fccc162b10e9d35bcb475ae811475676", func := "example.com/evenkeel/evenkeel/internal/jsonnames.LawS6207CWhole", spec := "lawS6207CWhole", apart := false }
def LawS6207CWholeSaid : Prop := lawS6207CWholeRow.holds Yba.pinned (OpenSpec.ofChange lawS6207CWholeSpec)

/-- ITS FALSE NEIGHBOUR: 'it returns false'. Refute it at one input. -/
def lawS6207CWholeWrong : ChangeSpec := { name := "lawS6207CWhole", fn := fun _ => fun
  | [d1, d2, d3, d4, d5, d6] => { results := [.lit (.bool false)], args := [d1, d2, d3, d4, d5, d6] }
  | _ => none }
def LawS6207CWholeWrongFalsely : Prop := lawS6207CWholeRow.holds Yba.pinned (OpenSpec.ofChange lawS6207CWholeWrong)

end Rows
end Go.Proofs.Ybulkdxng
