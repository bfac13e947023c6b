/-
  No cell of these rows narrows 'for every input' (looked for: loops, veiled, ifaces, maps, wideKeys, modest, calm, conditions, laid).
  DERIVED. THE GIVEN ROWS OF THIS SEAT. 2 by the template 'for every input the law returns true; each argument reads behind the call as it read before'; 0 by the template 'total and deterministic' (their statements: YbulkcdleTotals.lean).
  GIVEN WITH THE SEED: the statements are not yours to turn. If you find one false, say at which input.
  Laid BY PROGRAM, IN A SANDBOX (cutbox-rows.mjs): the forced cells as the released guide's own fill.sh prints them over the translation 9fcb765ed7d68918… (all of the seat's roots in one cut). By AI agents, Wed Nov 11 2026. No macro, syntax, notation, axiom, sorry.
-/
import Derived.Test.YbulkcdleChecked
import GoSem.Claim
import GoSem.ClaimJoined
import GoSem.ClaimMapViews
import Derived.JoinedTies
import Derived.KernelRfl
namespace Go.Proofs.Ybulkcdle
/- THE CELL 'sum', in the pinned program and in every row, IS THE sha256 OF THE DUMP (.gsa) THAT YbulkcdleProg.lean LOADS. Nothing in Lean hashes anything: it is a label: what it is worth is what the hold of that sum in a sandbox is worth. -/
noncomputable def Yba.pinned : Pinned := { name := "ybulkcdle", sum := "9fcb765ed7d68918671c39df6c6e9eede5116fb9054b036a8ef9ecd3797c2907", checked := Yba.checked }
namespace Rows
def none {H : Type} : Left H := { results := [], args := [] }

/-- 'storage.LawS3982AShape': WHATEVER THE INPUT: true; the input reads as it did. -/
def lawS3982AShapeSpec : ChangeSpec := { name := "lawS3982AShape", fn := fun _ => fun
  | [d1, d2, d3, d4, d5, d6] => { results := [.lit (.bool true)], args := [d1, d2, d3, d4, d5, d6] }
  | _ => none }
def lawS3982AShapeRow : OpenClaim := { program := "ybulkcdle", sum := "9fcb765ed7d68918671c39df6c6e9eede5116fb9054b036a8ef9ecd3797c2907", func := "example.com/berth/berth/internal/storage.LawS3982AShape", spec := "lawS3982AShape", apart := false }
def LawS3982AShapeSaid : Prop := lawS3982AShapeRow.holds Yba.pinned (OpenSpec.ofChange lawS3982AShapeSpec)

/-- ITS FALSE NEIGHBOUR: 'it returns false'. Refute it at one input. -/
def lawS3982AShapeWrong : ChangeSpec := { name := "lawS3982AShape", fn := fun _ => fun
  | [d1, d2, d3, d4, d5, d6] => { results := [.lit (.bool false)], args := [d1, d2, d3, d4, d5, d6] }
  | _ => none }
def LawS3982AShapeWrongFalsely : Prop := lawS3982AShapeRow.holds Yba.pinned (OpenSpec.ofChange lawS3982AShapeWrong)

/-- 'storage.LawS3982AReads': WHATEVER THE INPUT: true; the input reads as it did. -/
def lawS3982AReadsSpec : ChangeSpec := { name := "lawS3982AReads", fn := fun _ => fun
  | [d1, d2, d3, d4] => { results := [.lit (.bool true)], args := [d1, d2, d3, d4] }
  | _ => none }
def lawS3982AReadsRow : OpenClaim := { program := "ybulkcdle", sum := "9fcb765ed7d68918671c39df6c6e9eede5116fb9054b036a8ef9ecd3797c2907", func := "example.com/berth/berth/internal/storage.LawS3982AReads", spec := "lawS3982AReads", unfollowed := true, recurses := true, apart := false }
def LawS3982AReadsSaid : Prop := lawS3982AReadsRow.holds Yba.pinned (OpenSpec.ofChange lawS3982AReadsSpec)

/-- ITS FALSE NEIGHBOUR: 'it returns false'. Refute it at one input. -/
def lawS3982AReadsWrong : ChangeSpec := { name := "lawS3982AReads", fn := fun _ => fun
  | [d1, d2, d3, d4] => { results := [.lit (.bool false)], args := [d1, d2, d3, d4] }
  | _ => none }
def LawS3982AReadsWrongFalsely : Prop := lawS3982AReadsRow.holds Yba.pinned (OpenSpec.ofChange lawS3982AReadsWrong)

end Rows
end Go.Proofs.Ybulkcdle
