/-
  No cell of these rows narrows 'for every input' (looked for: loops, veiled, ifaces, maps, wideKeys, modest, calm, conditions, laid).
  DERIVED. THE GIVEN ROWS OF THIS SEAT. 1 by the template 'for every input the law returns true; each argument reads behind the call as it read before'; 0 by the template 'total and deterministic' (their statements: YbulkcdkcTotals.lean).
  GIVEN WITH THE SEED: the statements are not yours to turn. If you find one false, say at which input.
  Laid BY PROGRAM, IN A SANDBOX (cutbox-rows.mjs): the forced cells as the released guide's own fill.sh prints them over the translation e2e67bced0f0f900… (all of the seat's roots in one cut). By AI agents, Wed Nov 11 2026. No macro, syntax, notation, axiom, sorry.
-/
import Derived.Test.YbulkcdkcChecked
import GoSem.Claim
import GoSem.ClaimJoined
import GoSem.ClaimMapViews
import Derived.JoinedTies
import Derived.KernelRfl
namespace Go.Proofs.Ybulkcdkc
/- THE CELL 'sum', in the pinned program and in every row, IS THE sha256 OF THE DUMP (.gsa) THAT YbulkcdkcProg.lean LOADS. Nothing in Lean hashes anything: it is a label: what it is worth is what the hold of that sum in a sandbox is worth. -/
noncomputable def Yba.pinned : Pinned := { name := "ybulkcdkc", sum := "e2e67bced0f0f900c88f542e47595e4de42a2e0dd82fa97fa969d9ddb33d1aed", checked := Yba.checked }
namespace Rows
def none {H : Type} : Left H := { results := [], args := [] }

/-- 'rondel.LawS3980BInstall': WHATEVER THE INPUT: true; the input reads as it did. -/
def lawS3980BInstallSpec : ChangeSpec := { name := "lawS3980BInstall", fn := fun _ => fun
  | [d1, d2, d3, d4, d5, d6, d7] => { results := [.lit (.bool true)], args := [d1, d2, d3, d4, d5, d6, d7] }
  | _ => none }
def lawS3980BInstallRow : OpenClaim := { program := "ybulkcdkc", sum := "e2e67bced0f0f900c88f542e47595e4de42a2e0dd82fa97fa969d9ddb33d1aed", func := "example.com/rondel/rondel.LawS3980BInstall", spec := "lawS3980BInstall", unfollowed := true, recurses := true, plainKeys := false, apart := false }
def LawS3980BInstallSaid : Prop := lawS3980BInstallRow.holds Yba.pinned (OpenSpec.ofChange lawS3980BInstallSpec)

/-- ITS FALSE NEIGHBOUR: 'it returns false'. Refute it at one input. -/
def lawS3980BInstallWrong : ChangeSpec := { name := "lawS3980BInstall", fn := fun _ => fun
  | [d1, d2, d3, d4, d5, d6, d7] => { results := [.lit (.bool false)], args := [d1, d2, d3, d4, d5, d6, d7] }
  | _ => none }
def LawS3980BInstallWrongFalsely : Prop := lawS3980BInstallRow.holds Yba.pinned (OpenSpec.ofChange lawS3980BInstallWrong)

end Rows
end Go.Proofs.Ybulkcdkc
