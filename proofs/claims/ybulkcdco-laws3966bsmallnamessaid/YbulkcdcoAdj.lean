import Derived.Test.YbulkcdcoSep
namespace Go.Proofs.Ybulkcdco
open Go.RowKit

def nats (l : List Nat) : List Value := l.map fun (z : Nat) => Value.int .i64 (z : Int)
theorem nats_len (l : List Nat) : (nats l).length = l.length := by simp [nats]
theorem nats_append (a b : List Nat) : nats (a ++ b) = nats a ++ nats b := by simp [nats]
theorem nats_set (l : List Nat) (i z : Nat) : nats (l.set i z) = (nats l).set i (.int .i64 (z : Int)) := by unfold nats; rw [List.map_set]
theorem nats_get (l : List Nat) (i : Nat) (h : i < l.length) : (nats l)[i]? = some (.int .i64 ((l.getD i 0 : Nat) : Int)) := by simp [nats, h]
theorem nats_take (l : List Nat) (i : Nat) : nats (l.take i) = (nats l).take i := by unfold nats; rw [List.map_take]

theorem own_typeB {w : World} {e : TypeId} {z : Nat} {v : Value} {n : Nat} {xs : List Value} (h : w.ownsRow 0 e z v n xs) {g : Nat} (hg : v.ownBlock = some g) : ∃ cs fr, w.heap[g]? = some (.cells cs e fr) := by
  rcases h.2 with ⟨rfl, _⟩ | ⟨g', cap, cur, rfl, hb, hg', _⟩
  · simp [Value.ownBlock] at hg
  · simp [Value.ownBlock] at hg; subst hg; exact ⟨_, _, hg'⟩

/-- Lists next to nodes: a slice of N slices of numbers. -/
structure Adj (w : World) (g N : Nat) (vs : List Value) (A : List (List Nat)) : Prop where
  out : w.ownsRow 0 28 1 (.slice (some ⟨g, 0, none⟩) N N) N vs
  len : A.length = N
  own : ∀ j v, vs[j]? = some v → w.ownsRow 0 3 1 v (A.getD j []).length (nats (A.getD j []))
  dis : ∀ (i j : Nat) (vi vj : Value), i ≠ j → vs[i]? = some vi → vs[j]? = some vj → ∀ b, vi.ownBlock = some b → vj.ownBlock ≠ some b
def AF (g : Nat) (vs : List Value) (b : Nat) : Prop := b = g ∨ ∃ (j : Nat) (v : Value), vs[j]? = some v ∧ v.ownBlock = some b

theorem Adj.vlen {w : World} {g N : Nat} {vs : List Value} {A : List (List Nat)} (h : Adj w g N vs A) : vs.length = N := by have := h.out.1; omega
theorem Adj.at_ {w : World} {g N : Nat} {vs : List Value} {A : List (List Nat)} (h : Adj w g N vs A) (j : Nat) (hj : j < N) : ∃ v, vs[j]? = some v ∧ w.cell? ⟨g, j, none⟩ = some v ∧ w.frozen? ⟨g, j, none⟩ = false ∧ w.ownsRow 0 3 1 v (A.getD j []).length (nats (A.getD j [])) := by
  have hv : j < vs.length := by rw [h.vlen]; exact hj
  refine ⟨vs[j], List.getElem?_eq_getElem hv, ?_, h.out.frozenAt j, h.own j _ (List.getElem?_eq_getElem hv)⟩
  rw [h.out.cellAt j (by omega), List.getElem?_eq_getElem hv]
theorem Adj.gne {w : World} {g N : Nat} {vs : List Value} {A : List (List Nat)} (h : Adj w g N vs A) {j : Nat} {v : Value} (hv : vs[j]? = some v) : v.ownBlock ≠ some g := fun e => by
  obtain ⟨cs, fr, hc⟩ := own_typeB (h.own j v hv) e
  obtain ⟨cs', fr', hc'⟩ := own_typeB h.out (g := g) rfl
  rw [hc] at hc'; simp at hc'

def Res.adj (g N : Nat) (vs : List Value) (A : List (List Nat)) : Res where
  F := AF g vs
  A := fun w => Adj w g N vs A
  keep := fun w w' S h k hS => ⟨k.own h.out (fun b hb => hS b (.inl (by simp [Value.ownBlock] at hb; exact hb.symm))), h.len, fun j v hv => k.own (h.own j v hv) (fun b hb => hS b (.inr ⟨j, v, hv, hb⟩)), h.dis⟩
  lt := fun w b h hb => by
    rcases hb with rfl | ⟨j, v, hv, hb⟩
    · exact (h.out.lt b rfl).2
    · exact ((h.own j v hv).lt b hb).2

/-- One list grows, and its slice is stored. -/
theorem Adj.push {w w1 : World} {g N : Nat} {vs : List Value} {A : List (List Nat)} (h : Adj w g N vs A) {j u n' : Nat} {v v' : Value} (hv : vs[j]? = some v) (hn : n' = (A.getD j []).length + 1)
    (hA : App 3 1 w v (A.getD j []).length (nats (A.getD j [])) v' w1 n' (nats (A.getD j []) ++ [.int .i64 (u : Int)])) :
    Adj (w1.setCell ⟨g, j, none⟩ v') g N (vs.set j v') (A.set j (A.getD j [] ++ [u])) ∧ Keeps (AF g vs) w (w1.setCell ⟨g, j, none⟩ v') ∧ ∀ b, AF g (vs.set j v') b → AF g vs b ∨ w.heap.size ≤ b := by
  subst hn
  have hj : j < vs.length := (List.getElem?_eq_some_iff.1 hv).1
  have hjA : j < A.length := by rw [h.len, ← h.vlen]; exact hj
  have ho1 := hA.keeps.own h.out (fun b hb e => h.gne hv (by simp [Value.ownBlock] at hb; subst hb; exact e))
  have hst := ho1.stored j v'
  have hks : Keeps (fun b => b = g) w1 (w1.setCell ⟨g, j, none⟩ v') := (Keeps.refl (fun b => b = g) w1).setCell (p := ⟨g, j, none⟩) (fun _ => rfl) _
  have hv'g : v'.ownBlock ≠ some g := fun e => by
    rcases hA.moved _ e with h1 | h1
    · exact h.gne hv h1
    · have := (h.out.lt g rfl).2; omega
  have oth : ∀ i vi, i ≠ j → vs[i]? = some vi → ∀ b, vi.ownBlock = some b → v'.ownBlock ≠ some b := fun i vi hij hvi b hb e => by
    rcases hA.moved _ e with h1 | h1
    · exact h.dis i j vi v hij hvi hv b hb h1
    · have := ((h.own i vi hvi).lt b hb).2; omega
  refine ⟨⟨hst.1, by simp [h.len], fun i vi hvi => ?_, fun i k vi vk hik hvi hvk b hb => ?_⟩, ?_, ?_⟩
  · by_cases e : i = j
    · subst e
      rw [List.getElem?_set_self hj] at hvi
      cases hvi
      have hg : (A.set i (A.getD i [] ++ [u])).getD i [] = A.getD i [] ++ [u] := by simp [hjA]
      rw [hg, nats_append]
      have := hks.own hA.own (fun b hb e => hv'g (e ▸ hb))
      simpa [nats] using this
    · rw [List.getElem?_set_ne (fun h => e h.symm)] at hvi
      have hg : (A.set j (A.getD j [] ++ [u])).getD i [] = A.getD i [] := by simp [List.getElem?_set_ne (fun h => e h.symm)]
      rw [hg]
      exact hks.own (hA.keeps.own (h.own i vi hvi) (fun b hb e' => h.dis i j vi v e hvi hv b hb e')) (fun b hb e' => h.gne hvi (e' ▸ hb))
  · by_cases e : i = j
    · subst e
      rw [List.getElem?_set_self hj] at hvi
      cases hvi
      rw [List.getElem?_set_ne hik] at hvk
      exact fun e' => oth k vk (fun h => hik h.symm) hvk b e' hb
    · rw [List.getElem?_set_ne (fun h => e h.symm)] at hvi
      by_cases e2 : k = j
      · subst e2
        rw [List.getElem?_set_self hj] at hvk
        cases hvk
        exact oth i vi e hvi b hb
      · rw [List.getElem?_set_ne (fun h => e2 h.symm)] at hvk
        exact h.dis i k vi vk hik hvi hvk b hb
  · exact (hA.keeps.mono (fun b _ hb => .inr ⟨j, v, hv, hb⟩)).setCell (p := ⟨g, j, none⟩) (fun _ => .inl rfl) _
  · intro b hb
    rcases hb with hb | ⟨i, vi, hvi, hb⟩
    · exact .inl (.inl hb)
    · by_cases e : i = j
      · subst e
        rw [List.getElem?_set_self hj] at hvi
        cases hvi
        rcases hA.moved _ hb with h1 | h1
        · exact .inl (.inr ⟨i, v, hv, h1⟩)
        · exact .inr h1
      · rw [List.getElem?_set_ne (fun h => e h.symm)] at hvi
        exact .inl (.inr ⟨i, vi, hvi, hb⟩)
theorem Sep.adjPush {w0 w w1 : World} {g N : Nat} {vs : List Value} {A : List (List Nat)} {rs : List Res} (S : Sep w0 w (Res.adj g N vs A :: rs)) {j u n' : Nat} {v v' : Value} (hv : vs[j]? = some v) (hn : n' = (A.getD j []).length + 1)
    (hA : App 3 1 w v (A.getD j []).length (nats (A.getD j [])) v' w1 n' (nats (A.getD j []) ++ [.int .i64 (u : Int)])) :
    Sep w0 (w1.setCell ⟨g, j, none⟩ v') (Res.adj g N (vs.set j v') (A.set j (A.getD j [] ++ [u])) :: rs) := by
  have h := Adj.push S.head hv hn hA
  exact S.upd1 (r' := Res.adj g N (vs.set j v') (A.set j (A.getD j [] ++ [u]))) h.1 h.2.1 h.2.2

/-- A cell of a block is stored. -/
theorem Sep.blkSet {w0 w : World} {g : Nat} {cs : Array Value} {t : TypeId} {rs : List Res} (S : Sep w0 w (Res.blk g cs t :: rs)) (i : Nat) (u : Value) : Sep w0 (w.setCell ⟨g, i, none⟩ u) (Res.blk g (cs.setIfInBounds i u) t :: rs) :=
  S.upd1 (r' := Res.blk g (cs.setIfInBounds i u) t) (heap_setCell_same w g i cs t u S.head) ((Keeps.refl (fun b => b = g) w).setCell (p := ⟨g, i, none⟩) (fun _ => rfl) _) (fun _ hb => .inl hb)

/-- make([][]int, N). -/
theorem adj_made (w : World) (N : Nat) (hN : N ≤ 1000000) : Adj (w.alloc (.cells (madeCells #[Value.slice none 0 0] N) 28)) w.heap.size N (List.replicate N (.slice none 0 0)) (List.replicate N []) := by
  have hz := toList_madeCells_one (Value.slice none 0 0) N
  have hsz : (madeCells #[Value.slice none 0 0] N).size = N := by rw [← Array.length_toList, hz]; simp
  refine ⟨⟨by simp, .inr ⟨w.heap.size, N, _, rfl, Nat.zero_le _, heap_alloc_new w _, Nat.le_refl _, by unfold maxLen; omega, by omega, by rw [hz]; simp⟩⟩, by simp, fun j v hv => ?_, fun i j vi vj _ hvi _ b hb => ?_⟩
  · have hv' := List.mem_of_getElem? hv
    simp at hv'
    rw [hv'.2]
    have : (List.replicate N ([] : List Nat)).getD j [] = [] := by
      simp only [List.getD_eq_getElem?_getD, List.getElem?_replicate]; split <;> rfl
    rw [this]; exact World.ownsRow_nil _ _ _ _
  · have hv' := List.mem_of_getElem? hvi
    simp at hv'
    rw [hv'.2] at hb; simp [Value.ownBlock] at hb
end Go.Proofs.Ybulkcdco
