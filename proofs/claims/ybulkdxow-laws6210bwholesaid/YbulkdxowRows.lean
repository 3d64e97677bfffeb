/-
  No cell of these rows narrows 'for every input' (looked for: loops, veiled, ifaces, maps, wideKeys, modest, calm, conditions, laid).
  DERIVED. THE GIVEN ROWS OF THIS SEAT. 2 by the template 'for every input the law returns true; each argument reads behind the call as it read before'; 0 by the template 'total and deterministic' (their statements: YbulkdxowTotals.lean).
  GIVEN WITH THE SEED: the statements are not yours to turn. If you find one false, say at which input.
  Laid BY PROGRAM, IN A SANDBOX (cutbox-rows.mjs): the forced cells as the released guide's own fill.sh prints them over the translation 45b179dc4fe03c51… (all of the seat's roots in one cut). By AI agents, Wed Nov 11 2026. No macro, syntax, notation, axiom, sorry.
-/
import Derived.Test.YbulkdxowChecked
import GoSem.Claim
import GoSem.ClaimJoined
import GoSem.ClaimMapViews
import Derived.JoinedTies
import Derived.KernelRfl
namespace Go.Proofs.Ybulkdxow
/- THE CELL 'sum', in the pinned program and in every row, IS THE sha256 OF THE DUMP (.gsa) THAT YbulkdxowProg.lean LOADS. Nothing in Lean hashes anything: it is a label: what it is worth is what the hold of that sum in a sandbox is worth. -/
noncomputable def Yba.pinned : Pinned := { name := "ybulkdxow", sum := "45b179dc4fe03c51637e5ce48424a7b015592f07f8267500f420dd7982ac010d", checked := Yba.checked }
namespace Rows
def none {H : Type} : Left H := { results := [], args := [] }

/-- 'roundlock.LawS6210AWhole': WHATEVER THE INPUT: true; the input reads as it did. -/
def lawS6210AWholeSpec : ChangeSpec := { name := "lawS6210AWhole", fn := fun _ => fun
  | [d1, d2, d3, d4, d5] => { results := [.lit (.bool true)], args := [d1, d2, d3, d4, d5] }
  | _ => none }
def lawS6210AWholeRow : OpenClaim := { program := "ybulkdxow", sum := "45b179dc4fe03c51637e5ce48424a7b015592f07f8267500f420dd7982ac010d", func := "example.com/roundlock/roundlock.LawS6210AWhole", spec := "lawS6210AWhole", apart := false }
def LawS6210AWholeSaid : Prop := lawS6210AWholeRow.holds Yba.pinned (OpenSpec.ofChange lawS6210AWholeSpec)

/-- ITS FALSE NEIGHBOUR: 'it returns false'. Refute it at one input. -/
def lawS6210AWholeWrong : ChangeSpec := { name := "lawS6210AWhole", fn := fun _ => fun
  | [d1, d2, d3, d4, d5] => { results := [.lit (.bool false)], args := [d1, d2, d3, d4, d5] }
  | _ => none }
def LawS6210AWholeWrongFalsely : Prop := lawS6210AWholeRow.holds Yba.pinned (OpenSpec.ofChange lawS6210AWholeWrong)

/-- 'roundlock.LawS6210BWhole': WHATEVER THE INPUT: true; the input reads as it did. -/
def lawS6210BWholeSpec : ChangeSpec := { name := "lawS6210BWhole", fn := fun _ => fun
  | [d1, d2, d3] => { results := [.lit (.bool true)], args := [d1, d2, d3] }
  | _ => none }
def lawS6210BWholeRow : OpenClaim := { program := "ybulkdxow", sum := "45b179dc4fe03c51637e5ce48424a7b015592f07f8267500f420dd7982ac010d", func := "example.com/roundlock/roundlock.LawS6210BWhole", spec := "lawS6210BWhole", unfollowed := true, recurses := true, apart := false }
def LawS6210BWholeSaid : Prop := lawS6210BWholeRow.holds Yba.pinned (OpenSpec.ofChange lawS6210BWholeSpec)

/-- ITS FALSE NEIGHBOUR: 'it returns false'. Refute it at one input. -/
def lawS6210BWholeWrong : ChangeSpec := { name := "lawS6210BWhole", fn := fun _ => fun
  | [d1, d2, d3] => { results := [.lit (.bool false)], args := [d1, d2, d3] }
  | _ => none }
def LawS6210BWholeWrongFalsely : Prop := lawS6210BWholeRow.holds Yba.pinned (OpenSpec.ofChange lawS6210BWholeWrong)

end Rows
end Go.Proofs.Ybulkdxow
