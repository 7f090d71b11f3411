import Derived.Test.YbulkcdkcLw0
namespace Go.Proofs.Ybulkcdkc
open Go.RowKit

theorem Sep.pmAt {w0 w : World} {rs : List Res} (S : Sep w0 w rs) {g : Nat} (hg : w.heap.size = g) : Sep w0 (w.alloc (.map #[] 0)) (Res.pm g [] :: rs) := by
  subst hg
  exact S.add (r := Res.pm w.heap.size []) ⟨⟨#[], 0, heap_alloc_new w _, rfl⟩, .nil, by simp⟩ ((Keeps.refl _ w).alloc _) (fun b hb => Nat.le_of_eq (Eq.symm hb))
/-- A new coordinator's cells. -/
def coCells (bm b : Nat) : Array Value := #[.pointer (some ⟨bm, 0, none⟩), .slice none 0 0, .int .u64 0, .int .i64 0, .string ⟨#[]⟩, .int .u64 0, .bool false, .slice none 0 0, .map (some b), .map (some (b + 1)), .int .u64 0, .int .u64 0, .slice none 0 0, .map (some (b + 1 + 1)), .map (some (b + 1 + 1 + 1)), .map (some (b + 1 + 1 + 1 + 1)), .map (some (b + 1 + 1 + 1 + 1 + 1)), .int .u64 0, .slice none 0 0, .pointer none, .int .u64 0, .pointer none, .int .u64 0]
set_option maxRecDepth 100000 in
theorem new_any {w0 w : World} {rs : List Res} (S : Sep w0 w rs) (bm : Nat) :
    Calls Yba.prog 6 #[.pointer (some ⟨bm, 0, none⟩), .slice none 0 0] w fun r w' => ∃ b, r = .returned (.pointer (some ⟨b + 1 + 1 + 1 + 1 + 1 + 1, 0, none⟩)) ∧ Sep w0 w' (Res.pm (b + 1) [] :: Res.blk (b + 1 + 1 + 1 + 1 + 1 + 1) (coCells bm b) 60 :: rs) := by
  have hmm := @run_makeMap Yba.prog
  obtain ⟨b, hb⟩ : ∃ b, w.heap.size = b := ⟨_, rfl⟩
  have z1 : ∀ (W : World) (o : Obj) {h : Nat}, W.heap.size = h → (W.alloc o).heap.size = h + 1 := fun W o h e => by simp [e]
  have S1 := S.quiet ((Keeps.refl (fun _ => False) w).alloc (.map #[] 0))
  have e1 := z1 w (.map #[] 0) hb
  have S2 := S1.pmAt e1
  have e2 := z1 _ (.map #[] 0) e1
  have S3 := S2.quiet ((Keeps.refl (fun _ => False) _).alloc (.map #[] 0))
  have e3 := z1 _ (.map #[] 0) e2
  have S4 := S3.quiet ((Keeps.refl (fun _ => False) _).alloc (.map #[] 0))
  have e4 := z1 _ (.map #[] 0) e3
  have S5 := S4.quiet ((Keeps.refl (fun _ => False) _).alloc (.map #[] 0))
  have e5 := z1 _ (.map #[] 0) e4
  have S6 := S5.quiet ((Keeps.refl (fun _ => False) _).alloc (.map #[] 0))
  have e6 := z1 _ (.map #[] 0) e5
  have S7 := (S6.blkAt (coCells bm b) 60 e6).p2
  unfold coCells at S7
  clear S S1 S2 S3 S4 S5 S6 e1 e2 e3 e4 e5 e6 z1
  go_enter Yba.func6, Yba.ntmps6
  go_wp2
  go_ret
  exact ⟨b, rfl, S7⟩
end Go.Proofs.Ybulkcdkc
