/-
  No cell of these rows narrows 'for every input' (looked for: loops, veiled, ifaces, maps, wideKeys, modest, calm, conditions, laid).
  DERIVED. THE GIVEN ROWS OF THIS SEAT. 1 by the template 'for every input the law returns true; each argument reads behind the call as it read before'; 0 by the template 'total and deterministic' (their statements: YbulkcdeeTotals.lean).
  GIVEN WITH THE SEED: the statements are not yours to turn. If you find one false, say at which input.
  Laid BY PROGRAM, IN A SANDBOX (cutbox-rows.mjs): the forced cells as the released guide's own fill.sh prints them over the translation 9abbdad80b6233b5… (all of the seat's roots in one cut). By AI agents, Wed Nov 11 2026. No macro, syntax, notation, axiom, sorry.
-/
import Derived.Test.YbulkcdeeChecked
import GoSem.Claim
import GoSem.ClaimJoined
import GoSem.ClaimMapViews
import Derived.JoinedTies
import Derived.KernelRfl
namespace Go.Proofs.Ybulkcdee
/- THE CELL 'sum', in the pinned program and in every row, IS THE sha256 OF THE DUMP (.gsa) THAT YbulkcdeeProg.lean LOADS. Nothing in Lean hashes anything: it is a label: what it is worth is what the hold of that sum in a sandbox is worth. -/
noncomputable def Yba.pinned : Pinned := { name := "ybulkcdee", sum := "9abbdad80b6233b5c4aede408c8d351017882c699bd3f5617457dab3562c68a4", checked := Yba.checked }
namespace Rows
def none {H : Type} : Left H := { results := [], args := [] }

/-- 'causalis.LawS3969CExact': WHATEVER THE INPUT: true; the input reads as it did. -/
def lawS3969CExactSpec : ChangeSpec := { name := "lawS3969CExact", fn := fun _ => fun
  | [d1, d2, d3, d4] => { results := [.lit (.bool true)], args := [d1, d2, d3, d4] }
  | _ => none }
def lawS3969CExactRow : OpenClaim := { program := "ybulkcdee", sum := "9abbdad80b6233b5c4aede408c8d351017882c699bd3f5617457dab3562c68a4", func := "example.com/causalis/causalis.LawS3969CExact", spec := "lawS3969CExact", apart := false }
def LawS3969CExactSaid : Prop := lawS3969CExactRow.holds Yba.pinned (OpenSpec.ofChange lawS3969CExactSpec)

/-- ITS FALSE NEIGHBOUR: 'it returns false'. Refute it at one input. -/
def lawS3969CExactWrong : ChangeSpec := { name := "lawS3969CExact", fn := fun _ => fun
  | [d1, d2, d3, d4] => { results := [.lit (.bool false)], args := [d1, d2, d3, d4] }
  | _ => none }
def LawS3969CExactWrongFalsely : Prop := lawS3969CExactRow.holds Yba.pinned (OpenSpec.ofChange lawS3969CExactWrong)

end Rows
end Go.Proofs.Ybulkcdee
