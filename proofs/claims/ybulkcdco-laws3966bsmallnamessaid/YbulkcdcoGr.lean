import Derived.Test.YbulkcdcoAdj
import Derived.Test.YbulkcdcoFn
import Derived.Deep.OwnRows
namespace Go.Proofs.Ybulkcdco
open Go.RowKit

theorem Yba.infoB3 : (Yba.prog.info? 3).map (fun i => (i.zero, i.size, i.bytes)) = some (some (.int .i64 0), 1, 8) := by kernel_rfl
theorem Yba.info28 : (Yba.prog.info? 28).map (fun i => (i.zero, i.size, i.bytes)) = some (some (.slice none 0 0), 1, 24) := by kernel_rfl

theorem row_made (w : World) (N : Nat) (hN : N ≤ 1000000) : (w.alloc (.cells (madeCells #[Value.int .i64 0] N) 3)).ownsRow 0 3 1 (.slice (some ⟨w.heap.size, 0, none⟩) N N) N (nats (List.replicate N 0)) := by
  have hz := toList_madeCells_one (Value.int .i64 0) N
  have hsz : (madeCells #[Value.int .i64 0] N).size = N := by rw [← Array.length_toList, hz]; simp
  exact ⟨by simp [nats], .inr ⟨w.heap.size, N, _, rfl, Nat.zero_le _, heap_alloc_new w _, Nat.le_refl _, by unfold maxLen; omega, by omega, by rw [hz]; simp [nats]⟩⟩

section
variable {w0 w : World} {rs : List Res}
theorem Sep.blkAt (S : Sep w0 w rs) (cs : Array Value) (t : TypeId) {g : Nat} (hg : w.heap.size = g) : Sep w0 (w.alloc (.cells cs t)) (Res.blk g cs t :: rs) := by subst hg; exact S.newBlk cs t
theorem Sep.adjAt (S : Sep w0 w rs) (N : Nat) (hN : N ≤ 1000000) {g : Nat} (hg : w.heap.size = g) : Sep w0 (w.alloc (.cells (madeCells #[Value.slice none 0 0] N) 28)) (Res.adj g N (List.replicate N (.slice none 0 0)) (List.replicate N []) :: rs) := by
  subst hg
  refine S.add (r := Res.adj w.heap.size N (List.replicate N (.slice none 0 0)) (List.replicate N [])) (adj_made w N hN) ((Keeps.refl _ w).alloc _) (fun b hb => ?_)
  rcases hb with rfl | ⟨j, v, hv, hb⟩
  · exact Nat.le_refl _
  · have hv' := List.mem_of_getElem? hv
    simp at hv'
    rw [hv'.2] at hb; simp [Value.ownBlock] at hb
theorem Sep.rowAt (S : Sep w0 w rs) (N : Nat) (hN : N ≤ 1000000) {g : Nat} (hg : w.heap.size = g) : Sep w0 (w.alloc (.cells (madeCells #[Value.int .i64 0] N) 3)) (Res.row 3 1 (.slice (some ⟨g, 0, none⟩) N N) N (nats (List.replicate N 0)) :: rs) := by
  subst hg
  refine S.add (r := Res.row 3 1 (.slice (some ⟨w.heap.size, 0, none⟩) N N) N (nats (List.replicate N 0))) (row_made w N hN) ((Keeps.refl _ w).alloc _) (fun b hb => ?_)
  simp [Res.row, Value.ownBlock] at hb; omega
theorem Sep.s34 {a b c d : Res} (S : Sep w0 w (a :: b :: c :: d :: rs)) : Sep w0 w (a :: b :: d :: c :: rs) := S.perm (List.Perm.cons _ (List.Perm.cons _ (.swap _ _ _)))
end

theorem new_fin {w0 W : World} {rs : List Res} {N pg go gi gf gt : Nat} (S : Sep w0 W (Res.adj go N (List.replicate N (.slice none 0 0)) (List.replicate N []) :: Res.adj gi N (List.replicate N (.slice none 0 0)) (List.replicate N []) :: Res.row 3 1 (.slice (some ⟨gf, 0, none⟩) N N) N (nats (List.replicate N 0)) :: Res.row 3 1 (.slice (some ⟨gt, 0, none⟩) N N) N (nats (List.replicate N 0)) :: rs)) (hg : W.heap.size = pg) :
    ∃ pg' go' gi' gf' gt', Ending.returned (.pointer (some ⟨pg, 0, none⟩)) = .returned (.pointer (some ⟨pg', 0, none⟩)) ∧
      Sep w0 ((W.alloc (.cells #[.slice (some ⟨go, 0, none⟩) N N, .slice (some ⟨gi, 0, none⟩) N N, .slice (some ⟨gf, 0, none⟩) N N, .slice (some ⟨gt, 0, none⟩) N N, .int .i64 0, .slice none 0 0, .slice none 0 0] 80)).drew) (Res.blk pg' #[.slice (some ⟨go', 0, none⟩) N N, .slice (some ⟨gi', 0, none⟩) N N, .slice (some ⟨gf', 0, none⟩) N N, .slice (some ⟨gt', 0, none⟩) N N, .int .i64 0, .slice none 0 0, .slice none 0 0] 80 ::
        Res.adj go' N (List.replicate N (.slice none 0 0)) (List.replicate N []) :: Res.adj gi' N (List.replicate N (.slice none 0 0)) (List.replicate N []) :: Res.row 3 1 (.slice (some ⟨gf', 0, none⟩) N N) N (nats (List.replicate N 0)) :: Res.row 3 1 (.slice (some ⟨gt', 0, none⟩) N N) N (nats (List.replicate N 0)) :: rs) :=
  ⟨_, _, _, _, _, rfl, (S.blkAt _ _ hg).quiet ((Keeps.refl _ _).drew)⟩

set_option maxHeartbeats 3200000 in
theorem new_any {w0 w : World} {rs : List Res} (S : Sep w0 w rs) (N : Nat) (hN : N ≤ 1000000) :
    Calls Yba.prog 17 #[.int .i64 N] w fun r w' => ∃ pg go gi gf gt, r = .returned (.pointer (some ⟨pg, 0, none⟩)) ∧
      Sep w0 w' (Res.blk pg #[.slice (some ⟨go, 0, none⟩) N N, .slice (some ⟨gi, 0, none⟩) N N, .slice (some ⟨gf, 0, none⟩) N N, .slice (some ⟨gt, 0, none⟩) N N, .int .i64 0, .slice none 0 0, .slice none 0 0] 80 ::
        Res.adj go N (List.replicate N (.slice none 0 0)) (List.replicate N []) :: Res.adj gi N (List.replicate N (.slice none 0 0)) (List.replicate N []) :: Res.row 3 1 (.slice (some ⟨gf, 0, none⟩) N N) N (nats (List.replicate N 0)) :: Res.row 3 1 (.slice (some ⟨gt, 0, none⟩) N N) N (nats (List.replicate N 0)) :: rs) := by
  have hmk1 := run_make_row' (P := Yba.prog) 66 28 (.slice none 0 0) 24 Yba.underlying66 Yba.info28 rfl .i64 .i64 N (by omega) (by omega)
  have hmk2 := run_make_row' (P := Yba.prog) 28 3 (.int .i64 0) 8 Yba.underlying28 Yba.infoB3 rfl .i64 .i64 N (by omega) (by omega)
  go_enter Yba.func17, Yba.ntmps17
  go_wp2
  have z1 : ∀ (W : World) (o : Obj), (W.alloc o).heap.size = W.heap.size + 1 := fun W o => by simp
  have aa1 := (S.adjAt N hN rfl).adjAt N hN (z1 _ _)
  have ar1 := (S.adjAt N hN rfl).rowAt N hN (z1 _ _)
  have ra1 := (S.rowAt N hN rfl).adjAt N hN (z1 _ _)
  have rr1 := (S.rowAt N hN rfl).rowAt N hN (z1 _ _)
  have z2 : ∀ (o o' : Obj), ((w.alloc o).alloc o').heap.size = w.heap.size + 1 + 1 := fun o o' => by simp
  have z3 : ∀ (o o' o'' : Obj), (((w.alloc o).alloc o').alloc o'').heap.size = w.heap.size + 1 + 1 + 1 := fun o o' o'' => by simp
  have z4 : ∀ (o o' o'' o3 : Obj), ((((w.alloc o).alloc o').alloc o'').alloc o3).heap.size = w.heap.size + 1 + 1 + 1 + 1 := fun o o' o'' o3 => by simp
  have q1 := ((aa1.rowAt N hN (z2 _ _)).rowAt N hN (z3 _ _ _)).p4.p4   -- [a, a, r, r]
  have q2 := ((ar1.adjAt N hN (z2 _ _)).rowAt N hN (z3 _ _ _)).p4.p3
  have q3 := ((ar1.rowAt N hN (z2 _ _)).adjAt N hN (z3 _ _ _)).p4
  have q4 := ((ra1.adjAt N hN (z2 _ _)).rowAt N hN (z3 _ _ _)).p3.p3
  have q5 := ((ra1.rowAt N hN (z2 _ _)).adjAt N hN (z3 _ _ _)).p3
  have q6 := ((rr1.adjAt N hN (z2 _ _)).adjAt N hN (z3 _ _ _))
  go_region
  all_goals
    go_wp2
    go_ret
    first
      | exact new_fin q1 (z4 _ _ _ _)
      | exact new_fin q1.p2 (z4 _ _ _ _)
      | exact new_fin q1.s34 (z4 _ _ _ _)
      | exact new_fin q1.p2.s34 (z4 _ _ _ _)
      | exact new_fin q2 (z4 _ _ _ _)
      | exact new_fin q2.p2 (z4 _ _ _ _)
      | exact new_fin q2.s34 (z4 _ _ _ _)
      | exact new_fin q2.p2.s34 (z4 _ _ _ _)
      | exact new_fin q3 (z4 _ _ _ _)
      | exact new_fin q3.p2 (z4 _ _ _ _)
      | exact new_fin q3.s34 (z4 _ _ _ _)
      | exact new_fin q3.p2.s34 (z4 _ _ _ _)
      | exact new_fin q4 (z4 _ _ _ _)
      | exact new_fin q4.p2 (z4 _ _ _ _)
      | exact new_fin q4.s34 (z4 _ _ _ _)
      | exact new_fin q4.p2.s34 (z4 _ _ _ _)
      | exact new_fin q5 (z4 _ _ _ _)
      | exact new_fin q5.p2 (z4 _ _ _ _)
      | exact new_fin q5.s34 (z4 _ _ _ _)
      | exact new_fin q5.p2.s34 (z4 _ _ _ _)
      | exact new_fin q6 (z4 _ _ _ _)
      | exact new_fin q6.p2 (z4 _ _ _ _)
      | exact new_fin q6.s34 (z4 _ _ _ _)
      | exact new_fin q6.p2.s34 (z4 _ _ _ _)
end Go.Proofs.Ybulkcdco
