/-
  No cell of these rows narrows 'for every input' (looked for: loops, veiled, ifaces, maps, wideKeys, modest, calm, conditions, laid).
  DERIVED. THE GIVEN ROWS OF THIS SEAT. 3 by the template 'for every input the law returns true; each argument reads behind the call as it read before'; 0 by the template 'total and deterministic' (their statements: YbulkcdcoTotals.lean).
  GIVEN WITH THE SEED: the statements are not yours to turn. If you find one false, say at which input.
  Laid BY PROGRAM, IN A SANDBOX (cutbox-rows.mjs): the forced cells as the released guide's own fill.sh prints them over the translation bc13be8c9c0d556a… (all of the seat's roots in one cut). By AI agents, Wed Nov 11 2026. No macro, syntax, notation, axiom, sorry.
-/
import Derived.Test.YbulkcdcoChecked
import GoSem.Claim
import GoSem.ClaimJoined
import GoSem.ClaimMapViews
import Derived.JoinedTies
import Derived.KernelRfl
namespace Go.Proofs.Ybulkcdco
/- THE CELL 'sum', in the pinned program and in every row, IS THE sha256 OF THE DUMP (.gsa) THAT YbulkcdcoProg.lean LOADS. Nothing in Lean hashes anything: it is a label: what it is worth is what the hold of that sum in a sandbox is worth. -/
noncomputable def Yba.pinned : Pinned := { name := "ybulkcdco", sum := "bc13be8c9c0d556a600e49662a9ea8a0ba78a5d1aa2ab4ca7210d2ab8f361a79", checked := Yba.checked }
namespace Rows
def none {H : Type} : Left H := { results := [], args := [] }

/-- 'decide.LawS3966AFirsts': WHATEVER THE INPUT: true; the input reads as it did. -/
def lawS3966AFirstsSpec : ChangeSpec := { name := "lawS3966AFirsts", fn := fun _ => fun
  | [d] => { results := [.lit (.bool true)], args := [d] }
  | _ => none }
def lawS3966AFirstsRow : OpenClaim := { program := "ybulkcdco", sum := "bc13be8c9c0d556a600e49662a9ea8a0ba78a5d1aa2ab4ca7210d2ab8f361a79", func := "example.com/policygen/policygen/internal/decide.LawS3966AFirsts", spec := "lawS3966AFirsts", plainKeys := false, apart := false }
def LawS3966AFirstsSaid : Prop := lawS3966AFirstsRow.holds Yba.pinned (OpenSpec.ofChange lawS3966AFirstsSpec)

/-- ITS FALSE NEIGHBOUR: 'it returns false'. Refute it at one input. -/
def lawS3966AFirstsWrong : ChangeSpec := { name := "lawS3966AFirsts", fn := fun _ => fun
  | [d] => { results := [.lit (.bool false)], args := [d] }
  | _ => none }
def LawS3966AFirstsWrongFalsely : Prop := lawS3966AFirstsRow.holds Yba.pinned (OpenSpec.ofChange lawS3966AFirstsWrong)

/-- 'pml.LawS3966BSmallNames': WHATEVER THE INPUT: true; the input reads as it did. -/
def lawS3966BSmallNamesSpec : ChangeSpec := { name := "lawS3966BSmallNames", fn := fun _ => fun
  | [d] => { results := [.lit (.bool true)], args := [d] }
  | _ => none }
def lawS3966BSmallNamesRow : OpenClaim := { program := "ybulkcdco", sum := "bc13be8c9c0d556a600e49662a9ea8a0ba78a5d1aa2ab4ca7210d2ab8f361a79", func := "example.com/policygen/policygen/internal/pml.LawS3966BSmallNames", spec := "lawS3966BSmallNames", unfollowed := true, recurses := true, plainKeys := false, apart := false }
def LawS3966BSmallNamesSaid : Prop := lawS3966BSmallNamesRow.holds Yba.pinned (OpenSpec.ofChange lawS3966BSmallNamesSpec)

/-- ITS FALSE NEIGHBOUR: 'it returns false'. Refute it at one input. -/
def lawS3966BSmallNamesWrong : ChangeSpec := { name := "lawS3966BSmallNames", fn := fun _ => fun
  | [d] => { results := [.lit (.bool false)], args := [d] }
  | _ => none }
def LawS3966BSmallNamesWrongFalsely : Prop := lawS3966BSmallNamesRow.holds Yba.pinned (OpenSpec.ofChange lawS3966BSmallNamesWrong)

/-- 'pml.LawS3966BRaw': WHATEVER THE INPUT: true; the input reads as it did. -/
def lawS3966BRawSpec : ChangeSpec := { name := "lawS3966BRaw", fn := fun _ => fun
  | [d] => { results := [.lit (.bool true)], args := [d] }
  | _ => none }
def lawS3966BRawRow : OpenClaim := { program := "ybulkcdco", sum := "bc13be8c9c0d556a600e49662a9ea8a0ba78a5d1aa2ab4ca7210d2ab8f361a79", func := "example.com/policygen/policygen/internal/pml.LawS3966BRaw", spec := "lawS3966BRaw", unfollowed := true, recurses := true, plainKeys := false, apart := false }
def LawS3966BRawSaid : Prop := lawS3966BRawRow.holds Yba.pinned (OpenSpec.ofChange lawS3966BRawSpec)

/-- ITS FALSE NEIGHBOUR: 'it returns false'. Refute it at one input. -/
def lawS3966BRawWrong : ChangeSpec := { name := "lawS3966BRaw", fn := fun _ => fun
  | [d] => { results := [.lit (.bool false)], args := [d] }
  | _ => none }
def LawS3966BRawWrongFalsely : Prop := lawS3966BRawRow.holds Yba.pinned (OpenSpec.ofChange lawS3966BRawWrong)

end Rows
end Go.Proofs.Ybulkcdco
