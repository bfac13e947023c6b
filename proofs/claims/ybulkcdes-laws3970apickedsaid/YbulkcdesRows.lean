/-
  No cell of these rows narrows 'for every input' (looked for: loops, veiled, ifaces, maps, wideKeys, modest, calm, conditions, laid).
  DERIVED. THE GIVEN ROWS OF THIS SEAT. 6 by the template 'for every input the law returns true; each argument reads behind the call as it read before'; 0 by the template 'total and deterministic' (their statements: YbulkcdesTotals.lean).
  GIVEN WITH THE SEED: the statements are not yours to turn. If you find one false, say at which input.
  Laid BY PROGRAM, IN A SANDBOX (cutbox-rows.mjs): the forced cells as the released guide's own fill.sh prints them over the translation 9b33c4d970ec66e3… (all of the seat's roots in one cut). By AI agents, Wed Nov 11 2026. No macro, syntax, notation, axiom, sorry.
-/
import Derived.Test.YbulkcdesChecked
import GoSem.Claim
import GoSem.ClaimJoined
import GoSem.ClaimMapViews
import Derived.JoinedTies
import Derived.KernelRfl
namespace Go.Proofs.Ybulkcdes
/- THE CELL 'sum', in the pinned program and in every row, IS THE sha256 OF THE DUMP (.gsa) THAT YbulkcdesProg.lean LOADS. Nothing in Lean hashes anything: it is a label: what it is worth is what the hold of that sum in a sandbox is worth. -/
noncomputable def Yba.pinned : Pinned := { name := "ybulkcdes", sum := "9b33c4d970ec66e388e9d85ca211b3b836d2de9aeea9212ae08a4447b80a4518", checked := Yba.checked }
namespace Rows
def none {H : Type} : Left H := { results := [], args := [] }

/-- 'tilden.LawS3970AMatchesModel': WHATEVER THE INPUT: true; the input reads as it did. -/
def lawS3970AMatchesModelSpec : ChangeSpec := { name := "lawS3970AMatchesModel", fn := fun _ => fun
  | [d1, d2] => { results := [.lit (.bool true)], args := [d1, d2] }
  | _ => none }
def lawS3970AMatchesModelRow : OpenClaim := { program := "ybulkcdes", sum := "9b33c4d970ec66e388e9d85ca211b3b836d2de9aeea9212ae08a4447b80a4518", func := "example.com/tilden/tilden.LawS3970AMatchesModel", spec := "lawS3970AMatchesModel", apart := false }
def LawS3970AMatchesModelSaid : Prop := lawS3970AMatchesModelRow.holds Yba.pinned (OpenSpec.ofChange lawS3970AMatchesModelSpec)

/-- ITS FALSE NEIGHBOUR: 'it returns false'. Refute it at one input. -/
def lawS3970AMatchesModelWrong : ChangeSpec := { name := "lawS3970AMatchesModel", fn := fun _ => fun
  | [d1, d2] => { results := [.lit (.bool false)], args := [d1, d2] }
  | _ => none }
def LawS3970AMatchesModelWrongFalsely : Prop := lawS3970AMatchesModelRow.holds Yba.pinned (OpenSpec.ofChange lawS3970AMatchesModelWrong)

/-- 'tilden.LawS3970APicked': WHATEVER THE INPUT: true; the input reads as it did. -/
def lawS3970APickedSpec : ChangeSpec := { name := "lawS3970APicked", fn := fun _ => fun
  | [d1, d2] => { results := [.lit (.bool true)], args := [d1, d2] }
  | _ => none }
def lawS3970APickedRow : OpenClaim := { program := "ybulkcdes", sum := "9b33c4d970ec66e388e9d85ca211b3b836d2de9aeea9212ae08a4447b80a4518", func := "example.com/tilden/tilden.LawS3970APicked", spec := "lawS3970APicked", apart := false }
def LawS3970APickedSaid : Prop := lawS3970APickedRow.holds Yba.pinned (OpenSpec.ofChange lawS3970APickedSpec)

/-- ITS FALSE NEIGHBOUR: 'it returns false'. Refute it at one input. -/
def lawS3970APickedWrong : ChangeSpec := { name := "lawS3970APicked", fn := fun _ => fun
  | [d1, d2] => { results := [.lit (.bool false)], args := [d1, d2] }
  | _ => none }
def LawS3970APickedWrongFalsely : Prop := lawS3970APickedRow.holds Yba.pinned (OpenSpec.ofChange lawS3970APickedWrong)

/-- 'tilden.LawS3970BExact': WHATEVER THE INPUT: true; the input reads as it did. -/
def lawS3970BExactSpec : ChangeSpec := { name := "lawS3970BExact", fn := fun _ => fun
  | [d1, d2] => { results := [.lit (.bool true)], args := [d1, d2] }
  | _ => none }
def lawS3970BExactRow : OpenClaim := { program := "ybulkcdes", sum := "9b33c4d970ec66e388e9d85ca211b3b836d2de9aeea9212ae08a4447b80a4518", func := "example.com/tilden/tilden.LawS3970BExact", spec := "lawS3970BExact", apart := false }
def LawS3970BExactSaid : Prop := lawS3970BExactRow.holds Yba.pinned (OpenSpec.ofChange lawS3970BExactSpec)

/-- ITS FALSE NEIGHBOUR: 'it returns false'. Refute it at one input. -/
def lawS3970BExactWrong : ChangeSpec := { name := "lawS3970BExact", fn := fun _ => fun
  | [d1, d2] => { results := [.lit (.bool false)], args := [d1, d2] }
  | _ => none }
def LawS3970BExactWrongFalsely : Prop := lawS3970BExactRow.holds Yba.pinned (OpenSpec.ofChange lawS3970BExactWrong)

/-- 'tilden.LawS3970BSkipsMark': WHATEVER THE INPUT: true; the input reads as it did. -/
def lawS3970BSkipsMarkSpec : ChangeSpec := { name := "lawS3970BSkipsMark", fn := fun _ => fun
  | [d] => { results := [.lit (.bool true)], args := [d] }
  | _ => none }
def lawS3970BSkipsMarkRow : OpenClaim := { program := "ybulkcdes", sum := "9b33c4d970ec66e388e9d85ca211b3b836d2de9aeea9212ae08a4447b80a4518", func := "example.com/tilden/tilden.LawS3970BSkipsMark", spec := "lawS3970BSkipsMark", apart := false }
def LawS3970BSkipsMarkSaid : Prop := lawS3970BSkipsMarkRow.holds Yba.pinned (OpenSpec.ofChange lawS3970BSkipsMarkSpec)

/-- ITS FALSE NEIGHBOUR: 'it returns false'. Refute it at one input. -/
def lawS3970BSkipsMarkWrong : ChangeSpec := { name := "lawS3970BSkipsMark", fn := fun _ => fun
  | [d] => { results := [.lit (.bool false)], args := [d] }
  | _ => none }
def LawS3970BSkipsMarkWrongFalsely : Prop := lawS3970BSkipsMarkRow.holds Yba.pinned (OpenSpec.ofChange lawS3970BSkipsMarkWrong)

/-- 'tilden.LawS3970CModel': WHATEVER THE INPUT: true; the input reads as it did. -/
def lawS3970CModelSpec : ChangeSpec := { name := "lawS3970CModel", fn := fun _ => fun
  | [d] => { results := [.lit (.bool true)], args := [d] }
  | _ => none }
def lawS3970CModelRow : OpenClaim := { program := "ybulkcdes", sum := "9b33c4d970ec66e388e9d85ca211b3b836d2de9aeea9212ae08a4447b80a4518", func := "example.com/tilden/tilden.LawS3970CModel", spec := "lawS3970CModel", apart := false }
def LawS3970CModelSaid : Prop := lawS3970CModelRow.holds Yba.pinned (OpenSpec.ofChange lawS3970CModelSpec)

/-- ITS FALSE NEIGHBOUR: 'it returns false'. Refute it at one input. -/
def lawS3970CModelWrong : ChangeSpec := { name := "lawS3970CModel", fn := fun _ => fun
  | [d] => { results := [.lit (.bool false)], args := [d] }
  | _ => none }
def LawS3970CModelWrongFalsely : Prop := lawS3970CModelRow.holds Yba.pinned (OpenSpec.ofChange lawS3970CModelWrong)

/-- 'tilden.LawS3970CBuilt': WHATEVER THE INPUT: true; the input reads as it did. -/
def lawS3970CBuiltSpec : ChangeSpec := { name := "lawS3970CBuilt", fn := fun _ => fun
  | [d1, d2, d3, d4] => { results := [.lit (.bool true)], args := [d1, d2, d3, d4] }
  | _ => none }
def lawS3970CBuiltRow : OpenClaim := { program := "ybulkcdes", sum := "9b33c4d970ec66e388e9d85ca211b3b836d2de9aeea9212ae08a4447b80a4518", func := "example.com/tilden/tilden.LawS3970CBuilt", spec := "lawS3970CBuilt", apart := false }
def LawS3970CBuiltSaid : Prop := lawS3970CBuiltRow.holds Yba.pinned (OpenSpec.ofChange lawS3970CBuiltSpec)

/-- ITS FALSE NEIGHBOUR: 'it returns false'. Refute it at one input. -/
def lawS3970CBuiltWrong : ChangeSpec := { name := "lawS3970CBuilt", fn := fun _ => fun
  | [d1, d2, d3, d4] => { results := [.lit (.bool false)], args := [d1, d2, d3, d4] }
  | _ => none }
def LawS3970CBuiltWrongFalsely : Prop := lawS3970CBuiltRow.holds Yba.pinned (OpenSpec.ofChange lawS3970CBuiltWrong)

end Rows
end Go.Proofs.Ybulkcdes
