import Derived.Test.YbulkcdayBld
import Derived.Deep.OwnRows
namespace Go.Proofs.Ybulkcday
open Go.RowKit

section
variable {w0 w w' : World} {a b c d e f : Res} {rs : List Res}
theorem Sep.p2 (S : Sep w0 w (a :: b :: rs)) : Sep w0 w (b :: a :: rs) := S.perm (.swap _ _ _)
theorem Sep.p3 (S : Sep w0 w (a :: b :: c :: rs)) : Sep w0 w (c :: a :: b :: rs) := S.perm ((List.Perm.cons _ (.swap _ _ _)).trans (.swap _ _ _))
theorem Sep.q3 (S : Sep w0 w (a :: b :: c :: rs)) : Sep w0 w (b :: c :: a :: rs) := S.p3.p3
theorem Sep.p4 (S : Sep w0 w (a :: b :: c :: d :: rs)) : Sep w0 w (d :: a :: b :: c :: rs) :=
  S.perm ((List.Perm.cons _ ((List.Perm.cons _ (.swap _ _ _)).trans (.swap _ _ _))).trans (.swap _ _ _))
theorem Sep.q4 (S : Sep w0 w (a :: b :: c :: d :: rs)) : Sep w0 w (b :: c :: d :: a :: rs) := S.p4.p4.p4
theorem Sep.p5 (S : Sep w0 w (a :: b :: c :: d :: e :: rs)) : Sep w0 w (e :: a :: b :: c :: d :: rs) :=
  S.perm ((List.Perm.cons _ ((List.Perm.cons _ ((List.Perm.cons _ (.swap _ _ _)).trans (.swap _ _ _))).trans (.swap _ _ _))).trans (.swap _ _ _))
theorem Sep.q5 (S : Sep w0 w (a :: b :: c :: d :: e :: rs)) : Sep w0 w (b :: c :: d :: e :: a :: rs) := S.p5.p5.p5.p5
theorem Sep.p6 (S : Sep w0 w (a :: b :: c :: d :: e :: f :: rs)) : Sep w0 w (f :: a :: b :: c :: d :: e :: rs) :=
  S.perm ((List.Perm.cons _ ((List.Perm.cons _ ((List.Perm.cons _ ((List.Perm.cons _ (.swap _ _ _)).trans (.swap _ _ _))).trans (.swap _ _ _))).trans (.swap _ _ _))).trans (.swap _ _ _))
theorem Sep.q6 (S : Sep w0 w (a :: b :: c :: d :: e :: f :: rs)) : Sep w0 w (b :: c :: d :: e :: f :: a :: rs) := S.p6.p6.p6.p6.p6
end

section
variable {w0 w w1 : World} {rs : List Res}
theorem Sep.app {e : TypeId} {v v' : Value} {xs xs' : List Value} {n' : Nat} (S : Sep w0 w (Res.row e v xs :: rs)) (hA : App e 1 w v xs.length xs v' w1 n' xs') : Sep w0 w1 (Res.row e v' xs' :: rs) :=
  S.upd1 (r' := Res.row e v' xs') hA.norm.own hA.keeps (fun b hb => hA.moved b hb)
theorem Sep.store {e : TypeId} {g n : Nat} {xs : List Value} (S : Sep w0 w (Res.row e (.slice (some ⟨g, 0, none⟩) n n) xs :: rs)) (hl : xs.length = n) (i : Nat) (u : Value) : Sep w0 (w.setCell ⟨g, i, none⟩ u) (Res.row e (.slice (some ⟨g, 0, none⟩) n n) (xs.set i u) :: rs) := by
  have ho : w.ownsRow 0 e 1 (.slice (some ⟨g, 0, none⟩) n n) n xs := by have := S.head; simp only [Res.row] at this; rwa [hl] at this
  have hs := ho.stored i u
  refine S.upd1 (r' := Res.row e (.slice (some ⟨g, 0, none⟩) n n) (xs.set i u)) ?_ ?_ (fun b hb => .inl hb)
  · show (w.setCell ⟨g, i, none⟩ u).ownsRow 0 e 1 (.slice (some ⟨g, 0, none⟩) n n) (xs.set i u).length (xs.set i u)
    rw [List.length_set, hl]; exact hs.1
  · exact Keeps.of_grown hs.2 (fun k h => by show Value.ownBlock _ = some k; rw [Value.ownBlock]; simpa using h)
theorem Sep.st0 {p : Nat} {vt ve vk v' : Value} {X Z G X' : List Value} {n' : Nat} (S : Sep w0 w (Res.w p vt ve vk X Z G :: rs)) (hA : App 5 1 w vt X.length X v' w1 n' X') : Sep w0 (w1.setCell ⟨p, 0, none⟩ v') (Res.w p v' ve vk X' Z G :: rs) :=
  have h := Rw.st0 S.head hA
  S.upd1 (r' := Res.w p v' ve vk X' Z G) h.1 h.2.1 h.2.2
theorem Sep.st1 {p : Nat} {vt ve vk v' : Value} {X Z G X' : List Value} {n' : Nat} (S : Sep w0 w (Res.w p vt ve vk X Z G :: rs)) (hA : App 3 1 w ve Z.length Z v' w1 n' X') : Sep w0 (w1.setCell ⟨p, 1, none⟩ v') (Res.w p vt v' vk X X' G :: rs) :=
  have h := Rw.st1 S.head hA
  S.upd1 (r' := Res.w p vt v' vk X X' G) h.1 h.2.1 h.2.2
theorem Sep.st2 {p : Nat} {vt ve vk v' : Value} {X Z G X' : List Value} {n' : Nat} (S : Sep w0 w (Res.w p vt ve vk X Z G :: rs)) (hA : App 24 1 w vk G.length G v' w1 n' X') : Sep w0 (w1.setCell ⟨p, 2, none⟩ v') (Res.w p vt ve v' X Z X' :: rs) :=
  have h := Rw.st2 S.head hA
  S.upd1 (r' := Res.w p vt ve v' X Z X') h.1 h.2.1 h.2.2
end

theorem Sep.cellAt {w0 w : World} {rs : List Res} {e : TypeId} {g n : Nat} {xs : List Value} (S : Sep w0 w (Res.row e (.slice (some ⟨g, 0, none⟩) n n) xs :: rs)) (hl : xs.length = n) (i : Nat) (hi : i < n) : w.cell? ⟨g, i, none⟩ = some xs[i] ∧ w.frozen? ⟨g, i, none⟩ = false := by
  have ho : w.ownsRow 0 e 1 (.slice (some ⟨g, 0, none⟩) n n) n xs := by have := S.head; simp only [Res.row] at this; rwa [hl] at this
  exact ⟨(ho.cellAt i (by omega)).trans (List.getElem?_eq_getElem (by omega)), ho.frozenAt i⟩

/-- Behind the append, ahead of the store: the node's cells. -/
theorem Rw.after {e : TypeId} {w w1 : World} {p : Nat} {vt ve vk v v' : Value} {X Z G xs xs' : List Value} {n n' : Nat} (h : Rw w p vt ve vk X Z G) (hA : App e 1 w v n xs v' w1 n' xs') (hp : v.ownBlock ≠ some p) :
    w1.cell? ⟨p, 0, none⟩ = some vt ∧ w1.cell? ⟨p, 1, none⟩ = some ve ∧ w1.cell? ⟨p, 2, none⟩ = some vk ∧ ∀ o, w1.frozen? ⟨p, o, none⟩ = false := by
  have hpl : p < w.heap.size := (Array.getElem?_eq_some_iff.1 h.blk).1
  have hb := (hA.keeps.block p hpl hp).trans h.blk
  refine ⟨?_, ?_, ?_, fun o => ?_⟩ <;> simp [World.cell?, World.frozen?, hb]

theorem made_row (w : World) (n : Nat) (hn : n ≤ 1000) (e : TypeId) (z : Value) : (w.alloc (.cells (madeCells #[z] n) e)).ownsRow 0 e 1 (.slice (some ⟨w.heap.size, 0, none⟩) n n) n (List.replicate n z) := by
  have hz := toList_madeCells_one z n
  have hsz : (madeCells #[z] n).size = n := by rw [← Array.length_toList, hz]; simp
  exact ⟨by simp, .inr ⟨w.heap.size, n, _, rfl, Nat.zero_le _, heap_alloc_new w _, Nat.le_refl _, by unfold maxLen; omega, by omega, by rw [hz]; simp⟩⟩

theorem base_start (w : World) (inn : Bool) (n : Nat) (hn : n ≤ 1000) :
    Base w (((w.alloc (.cells #[.slice none 0 0, .slice none 0 0, .slice none 0 0, .int .u64 0] 30)).alloc (.cells (madeCells #[Value.pointer none] n) 24)).alloc (.cells (madeCells #[Value.int .i64 0] n) 3)) inn n 0 w.heap.size (w.heap.size + 1) (w.heap.size + 2) [] [] (.slice none 0 0) (.slice none 0 0) (.slice none 0 0) (.slice none 0 0) := by
  have S1 : Sep w (w.alloc (.cells #[.slice none 0 0, .slice none 0 0, .slice none 0 0, .int .u64 0] 30)) [Res.w w.heap.size (.slice none 0 0) (.slice none 0 0) (.slice none 0 0) [] [] []] :=
    (Sep.nil (Keeps.refl _ w)).add (r := Res.w w.heap.size (.slice none 0 0) (.slice none 0 0) (.slice none 0 0) [] [] []) (Rw.new w) ((Keeps.refl _ w).alloc _) (fun b hb => by rcases hb with h | h | h | h; omega; all_goals (simp [Value.ownBlock] at h))
  generalize hw1 : (w.alloc (.cells #[.slice none 0 0, .slice none 0 0, .slice none 0 0, .int .u64 0] 30)) = w1 at *
  have hs1 : w1.heap.size = w.heap.size + 1 := by rw [← hw1]; simp
  have S2 := S1.add (r := Res.row 24 (.slice (some ⟨w1.heap.size, 0, none⟩) n n) (List.replicate n (.pointer none))) (by show World.ownsRow _ _ _ _ _ _ _; rw [List.length_replicate]; exact made_row w1 n hn 24 _) ((Keeps.refl _ w1).alloc _) (fun b hb => by simp [Res.row, Value.ownBlock] at hb; omega)
  generalize hw2 : (w1.alloc (.cells (madeCells #[Value.pointer none] n) 24)) = w2 at *
  have hs2 : w2.heap.size = w.heap.size + 2 := by rw [← hw2]; simp; omega
  have S3 := S2.add (r := Res.row 3 (.slice (some ⟨w2.heap.size, 0, none⟩) n n) (List.replicate n (.int .i64 0))) (by show World.ownsRow _ _ _ _ _ _ _; rw [List.length_replicate]; exact made_row w2 n hn 3 _) ((Keeps.refl _ w2).alloc _) (fun b hb => by simp [Res.row, Value.ownBlock] at hb; omega)
  generalize (w2.alloc (.cells (madeCells #[Value.int .i64 0] n) 3)) = w3 at *
  have S4 := S3.add (r := Res.row 24 (.slice none 0 0) []) (World.ownsRow_nil _ _ _ _) (Keeps.refl _ w3) (fun b hb => by simp [Res.row, Value.ownBlock] at hb)
  have S5 := S4.add (r := Res.row 9 (.slice none 0 0) []) (World.ownsRow_nil _ _ _ _) (Keeps.refl _ w3) (fun b hb => by simp [Res.row, Value.ownBlock] at hb)
  rw [hs1, hs2] at S5
  refine ⟨?_, rfl, by simp, (fun k h => by cases h), (fun k h => by cases h), (fun k h => by cases h), (fun k h => by cases h), (fun k h => by cases h)⟩
  exact S5.perm (List.Perm.cons _ (List.Perm.cons _ (List.reverse_perm [_, _, _])))
end Go.Proofs.Ybulkcday
