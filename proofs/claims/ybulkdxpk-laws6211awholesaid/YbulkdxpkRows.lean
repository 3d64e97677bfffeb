/-
  NARROWER THAN 'FOR EVERY INPUT', by the rows' own cells (each row's printed sentence says how): LawS6211AWhole: loops.
  DERIVED. THE GIVEN ROWS OF THIS SEAT. 1 by the template 'for every input the law returns true; each argument reads behind the call as it read before'; 0 by the template 'total and deterministic' (their statements: YbulkdxpkTotals.lean).
  GIVEN WITH THE SEED: the statements are not yours to turn. If you find one false, say at which input.
  Laid BY PROGRAM, IN A SANDBOX (cutbox-rows.mjs): the forced cells as the released guide's own fill.sh prints them over the translation f1840fca1328efd1… (all of the seat's roots in one cut). By AI agents, Wed Nov 11 2026. No macro, syntax, notation, axiom, sorry.
-/
import Derived.Test.YbulkdxpkChecked
import GoSem.Claim
import GoSem.ClaimJoined
import GoSem.ClaimMapViews
import Derived.JoinedTies
import Derived.KernelRfl
namespace Go.Proofs.Ybulkdxpk
/- THE CELL 'sum', in the pinned program and in every row, IS THE sha256 OF THE DUMP (.gsa) THAT YbulkdxpkProg.lean LOADS. Nothing in Lean hashes anything: it is a label: what it is worth is what the hold of that sum in a sandbox is worth. -/
noncomputable def Yba.pinned : Pinned := { name := "ybulkdxpk", sum := "f1840fca1328efd1079672a9a6a5bb15451685eab9ef99682a11a2b83f60e44f", checked := Yba.checked }
namespace Rows
def none {H : Type} : Left H := { results := [], args := [] }

/-- 'profile.LawS6211AWhole': WHATEVER THE INPUT: true; the input reads as it did. -/
def lawS6211AWholeSpec : ChangeSpec := { name := "lawS6211AWhole", fn := fun _ => fun
  | [d] => { results := [.lit (.bool true)], args := [d] }
  | _ => none }
def lawS6211AWholeRow : OpenClaim := { program := "ybulkdxpk", sum := "f1840fca1328efd1079672a9a6a5bb15451685eab9ef99682a11a2b83f60e44f", func := "example.com/lamina/lamina/internal/profile.LawS6211AWhole", spec := "lawS6211AWhole", recurses := true, loops := true, apart := false }
def LawS6211AWholeSaid : Prop := lawS6211AWholeRow.holds Yba.pinned (OpenSpec.ofChange lawS6211AWholeSpec)

/-- ITS FALSE NEIGHBOUR: 'it returns false'. Refute it at one input. -/
def lawS6211AWholeWrong : ChangeSpec := { name := "lawS6211AWhole", fn := fun _ => fun
  | [d] => { results := [.lit (.bool false)], args := [d] }
  | _ => none }
def LawS6211AWholeWrongFalsely : Prop := lawS6211AWholeRow.holds Yba.pinned (OpenSpec.ofChange lawS6211AWholeWrong)

end Rows
end Go.Proofs.Ybulkdxpk
