/-
  No cell of these rows narrows 'for every input' (looked for: loops, veiled, ifaces, maps, wideKeys, modest, calm, conditions, laid).
  DERIVED. THE GIVEN ROWS OF THIS SEAT. 1 by the template 'for every input the law returns true; each argument reads behind the call as it read before'; 0 by the template 'total and deterministic' (their statements: YbulkdxmsTotals.lean).
  GIVEN WITH THE SEED: the statements are not yours to turn. If you find one false, say at which input.
  Laid BY PROGRAM, IN A SANDBOX (cutbox-rows.mjs): the forced cells as the released guide's own fill.sh prints them over the translation fcd629a11b0bcd84… (all of the seat's roots in one cut). By AI agents, Wed Nov 11 2026. No macro, syntax, notation, axiom, sorry.
-/
import Derived.Test.YbulkdxmsChecked
import GoSem.Claim
import GoSem.ClaimJoined
import GoSem.ClaimMapViews
import Derived.JoinedTies
import Derived.KernelRfl
namespace Go.Proofs.Ybulkdxms
/- THE CELL 'sum', in the pinned program and in every row, IS THE sha256 OF THE DUMP (.gsa) THAT YbulkdxmsProg.lean LOADS. Nothing in Lean hashes anything: it is a label: what it is worth is what the hold of that sum in a sandbox is worth. -/
noncomputable def Yba.pinned : Pinned := { name := "ybulkdxms", sum := "fcd629a11b0bcd841a27c52a48457c670f1b29ed2e065f7b94aecea96050b0bc", checked := Yba.checked }
namespace Rows
def none {H : Type} : Left H := { results := [], args := [] }

/-- 'raft.LawS6206BWhole': WHATEVER THE INPUT: true; the input reads as it did. -/
def lawS6206BWholeSpec : ChangeSpec := { name := "lawS6206BWhole", fn := fun _ => fun
  | [d1, d2, d3, d4] => { results := [.lit (.bool true)], args := [d1, d2, d3, d4] }
  | _ => none }
def lawS6206BWholeRow : OpenClaim := { program := "ybulkdxms", sum := "fcd629a11b0bcd841a27c52a48457c670f1b29ed2e065f7b94aecea96050b0bc", func := "example.com/quorumline/raft.LawS6206BWhole", spec := "lawS6206BWhole", apart := false }
def LawS6206BWholeSaid : Prop := lawS6206BWholeRow.holds Yba.pinned (OpenSpec.ofChange lawS6206BWholeSpec)

/-- ITS FALSE NEIGHBOUR: 'it returns false'. Refute it at one input. -/
def lawS6206BWholeWrong : ChangeSpec := { name := "lawS6206BWhole", fn := fun _ => fun
  | [d1, d2, d3, d4] => { results := [.lit (.bool false)], args := [d1, d2, d3, d4] }
  | _ => none }
def LawS6206BWholeWrongFalsely : Prop := lawS6206BWholeRow.holds Yba.pinned (OpenSpec.ofChange lawS6206BWholeWrong)

end Rows
end Go.Proofs.Ybulkdxms
