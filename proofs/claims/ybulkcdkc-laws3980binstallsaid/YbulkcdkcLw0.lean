import Derived.Test.YbulkcdkcIns
import Derived.Test.YbulkcdkcCl8
import Derived.Test.YbulkcdkcNms
/-
  The law: what its loops share.
-/
namespace Go.Proofs.Ybulkcdkc
open Go.RowKit

/-- Rows of strings that stay as they are. -/
def Res.pool (P : List (Value × List ByteArray)) : Res where
  F := fun b => ∃ p ∈ P, p.1.ownBlock = some b
  A := fun w => ∀ p ∈ P, Rd w p.1 p.2
  keep := fun _ _ _ h k hS p hp => k.own (h p hp) (fun b hb => hS b ⟨p, hp, hb⟩)
  lt := fun _ b h ⟨p, hp, hb⟩ => ((h p hp).lt b hb).2
theorem Sep.poolAdd {w0 w : World} {v : Value} {ss : List ByteArray} {P : List (Value × List ByteArray)} {rs : List Res} (S : Sep w0 w (Res.row 9 1 v ss.length (strs ss) :: Res.pool P :: rs)) : Sep w0 w (Res.pool ((v, ss) :: P) :: rs) := by
  refine S.join (t := Res.pool ((v, ss) :: P)) (fun p hp => ?_) (fun b hb => ?_)
  · rcases List.mem_cons.1 hp with rfl | hp
    · exact S.head
    · exact (show ∀ p ∈ P, Rd w p.1 p.2 from S.tail.head) p hp
  · obtain ⟨p, hp, hb⟩ := hb
    rcases List.mem_cons.1 hp with rfl | hp
    · exact .inl hb
    · exact .inr ⟨p, hp, hb⟩
/-- The masks that came in. -/
def MkAt (w : World) (a : Option Addr) (ms : List Nat) : Prop := ∀ i, i < ms.length → ∃ a0, a = some a0 ∧ w.cell? (a0.add i) = some (.int .u8 (ms.getD i 0))
theorem MkAt.keep {w w' : World} {a : Option Addr} {ms : List Nat} (h : MkAt w a ms) (k : Keeps (fun _ => False) w w') : MkAt w' a ms := fun i hi => by
  obtain ⟨a0, ha, hc⟩ := h i hi
  exact ⟨a0, ha, k.st hc⟩

/-- The first region of a piece of code. -/
def headRegion : Code → Option Nat
  | .region id _ _ => some id
  | .seq a _ => headRegion a
  | .block _ c => headRegion c
  | .loop c => headRegion c
  | .scope c => headRegion c
  | _ => none
/-- The loop whose body begins with region n. -/
def loopAt (n : Nat) : Code → Option Code
  | .loop c => match (headRegion c).any (Nat.beq n) with
    | true => some (.loop c)
    | false => loopAt n c
  | .seq a b => match loopAt n a with
    | some c => some c
    | none => loopAt n b
  | .block _ c => loopAt n c
  | .scope c => loopAt n c
  | .cond _ a b => match loopAt n a with
    | some c => some c
    | none => loopAt n b
  | _ => none
noncomputable def lawLoop (n : Nat) : Code := ((Yba.f3.body.bind (loopAt n)).getD .skip)
end Go.Proofs.Ybulkcdkc
