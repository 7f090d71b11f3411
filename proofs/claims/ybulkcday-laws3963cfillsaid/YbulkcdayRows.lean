/-
  No cell of these rows narrows 'for every input' (looked for: loops, veiled, ifaces, maps, wideKeys, modest, calm, conditions, laid).
  DERIVED. THE GIVEN ROWS OF THIS SEAT. 2 by the template 'for every input the law returns true; each argument reads behind the call as it read before'; 0 by the template 'total and deterministic' (their statements: YbulkcdayTotals.lean).
  GIVEN WITH THE SEED: the statements are not yours to turn. If you find one false, say at which input.
  Laid BY PROGRAM, IN A SANDBOX (cutbox-rows.mjs): the forced cells as the released guide's own fill.sh prints them over the translation 2936b816490778dd… (all of the seat's roots in one cut). By AI agents, Wed Nov 11 2026. No macro, syntax, notation, axiom, sorry.
-/
import Derived.Test.YbulkcdayChecked
import GoSem.Claim
import GoSem.ClaimJoined
import GoSem.ClaimMapViews
import Derived.JoinedTies
import Derived.KernelRfl
namespace Go.Proofs.Ybulkcday
/- THE CELL 'sum', in the pinned program and in every row, IS THE sha256 OF THE DUMP (.gsa) THAT YbulkcdayProg.lean LOADS. Nothing in Lean hashes anything: it is a label: what it is worth is what the hold of that sum in a sandbox is worth. -/
noncomputable def Yba.pinned : Pinned := { name := "ybulkcday", sum := "2936b816490778dd6c67fa0943eee7b4da1c31ce277ad388e24e099e47262c72", checked := Yba.checked }
namespace Rows
def none {H : Type} : Left H := { results := [], args := [] }

/-- 'btree.LawS3963AMatchesModel': WHATEVER THE INPUT: true; the input reads as it did. -/
def lawS3963AMatchesModelSpec : ChangeSpec := { name := "lawS3963AMatchesModel", fn := fun _ => fun
  | [d1, d2, d3, d4, d5, d6, d7] => { results := [.lit (.bool true)], args := [d1, d2, d3, d4, d5, d6, d7] }
  | _ => none }
def lawS3963AMatchesModelRow : OpenClaim := { program := "ybulkcday", sum := "2936b816490778dd6c67fa0943eee7b4da1c31ce277ad388e24e099e47262c72", func := "example.com/latchwork/latchwork/internal/btree.LawS3963AMatchesModel", spec := "lawS3963AMatchesModel", inPlace := ["slices.overlaps[string]"], recurses := true, apart := false }
def LawS3963AMatchesModelSaid : Prop := lawS3963AMatchesModelRow.holds Yba.pinned (OpenSpec.ofChange lawS3963AMatchesModelSpec)

/-- ITS FALSE NEIGHBOUR: 'it returns false'. Refute it at one input. -/
def lawS3963AMatchesModelWrong : ChangeSpec := { name := "lawS3963AMatchesModel", fn := fun _ => fun
  | [d1, d2, d3, d4, d5, d6, d7] => { results := [.lit (.bool false)], args := [d1, d2, d3, d4, d5, d6, d7] }
  | _ => none }
def LawS3963AMatchesModelWrongFalsely : Prop := lawS3963AMatchesModelRow.holds Yba.pinned (OpenSpec.ofChange lawS3963AMatchesModelWrong)

/-- 'btree.LawS3963CFill': WHATEVER THE INPUT: true; the input reads as it did. -/
def lawS3963CFillSpec : ChangeSpec := { name := "lawS3963CFill", fn := fun _ => fun
  | [d1, d2, d3] => { results := [.lit (.bool true)], args := [d1, d2, d3] }
  | _ => none }
def lawS3963CFillRow : OpenClaim := { program := "ybulkcday", sum := "2936b816490778dd6c67fa0943eee7b4da1c31ce277ad388e24e099e47262c72", func := "example.com/latchwork/latchwork/internal/btree.LawS3963CFill", spec := "lawS3963CFill", inPlace := ["slices.overlaps[*example.com/latchwork/latchwork/internal/btree.node]"], apart := false }
def LawS3963CFillSaid : Prop := lawS3963CFillRow.holds Yba.pinned (OpenSpec.ofChange lawS3963CFillSpec)

/-- ITS FALSE NEIGHBOUR: 'it returns false'. Refute it at one input. -/
def lawS3963CFillWrong : ChangeSpec := { name := "lawS3963CFill", fn := fun _ => fun
  | [d1, d2, d3] => { results := [.lit (.bool false)], args := [d1, d2, d3] }
  | _ => none }
def LawS3963CFillWrongFalsely : Prop := lawS3963CFillRow.holds Yba.pinned (OpenSpec.ofChange lawS3963CFillWrong)

end Rows
end Go.Proofs.Ybulkcday
