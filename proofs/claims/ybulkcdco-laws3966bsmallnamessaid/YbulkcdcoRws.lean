import Derived.Test.YbulkcdcoIdm
import Derived.Test.YbulkcdcoAdj
/-
  Rows of pairs, rows of roles; a make of many-celled elements.
-/
namespace Go.Proofs.Ybulkcdco
open Go.RowKit

theorem flat_rep (l : List Value) : ∀ (n j : Nat), ((List.replicate n l).flatten)[j]? = if j < n * l.length then l[j % l.length]? else none
  | 0, j => by simp
  | n + 1, j => by
    rw [List.replicate_succ, List.flatten_cons]
    by_cases h : j < l.length
    · rw [List.getElem?_append_left h, Nat.mod_eq_of_lt h, if_pos (by rw [Nat.succ_mul]; omega)]
    · rw [List.getElem?_append_right (by omega), flat_rep l n (j - l.length), ← Nat.mod_eq_sub_mod (by omega)]
      by_cases h2 : j < (n + 1) * l.length
      · rw [if_pos h2, if_pos (by rw [Nat.succ_mul] at h2; omega)]
      · rw [if_neg h2, if_neg (by rw [Nat.succ_mul] at h2; omega)]
theorem made_flat (z : Array Value) (n : Nat) (hz : 0 < z.size) : (madeCells z (n * z.size)).toList = (List.replicate n z.toList).flatten := by
  apply List.ext_getElem?
  intro j
  rw [flat_rep]
  simp only [Array.length_toList]
  have hm : j % z.size < z.size := Nat.mod_lt _ hz
  by_cases hj : j < n * z.size
  · rw [if_pos hj]
    simp [madeCells, hj, hm]
  · rw [if_neg hj]
    simp [madeCells]; omega
theorem make_run {P : Program} (t e : TypeId) (z : Value) (cs : Array Value) (size bytes : Nat) (ht : P.underlying t = some (.slice e)) (hinfo : (P.info? e).map (fun i => (i.zero, i.size, i.bytes)) = some (some z, size, bytes)) (hz : z.cells = cs) (n : Nat) (hb : bytes * n ≤ 281474976710656) (hn : n ≤ 1000000) (w : World) :
    (Instr.makeSlice t (.int .i64 (n : Int)) (.int .i64 (n : Int))).run P w = .ok (.slice (some ⟨w.heap.size, 0, none⟩) n n) (w.alloc (.cells (madeCells cs (n * size)) e)) := by
  obtain ⟨i, hi, h1, h2, h3⟩ := info_parts hinfo
  have hb' : (i.bytes : Int) * (n : Int) ≤ 281474976710656 := by
    rw [h3]
    have h : ((bytes * n : Nat) : Int) ≤ 281474976710656 := by omega
    rwa [Int.natCast_mul] at h
  have hr := run_make (P := P) w t e i z ht hi h1 .i64 .i64 n n (by omega) (Int.le_refl _) hb' (by omega)
  simp only [Int.toNat_natCast] at hr
  rw [hr, hz, h2]
theorem Sep.madeAt {w0 w : World} {rs : List Res} (S : Sep w0 w rs) (e : TypeId) (cs : Array Value) (z n : Nat) (hs : cs.size = n * z) (hn : n ≤ 1000000) {g : Nat} (hg : w.heap.size = g) : Sep w0 (w.alloc (.cells cs e)) (Res.row e z (.slice (some ⟨g, 0, none⟩) n n) n cs.toList :: rs) := by
  subst hg
  refine S.add (r := Res.row e z (.slice (some ⟨w.heap.size, 0, none⟩) n n) n cs.toList) ⟨by simp [hs], .inr ⟨w.heap.size, n, cs, rfl, Nat.zero_le _, heap_alloc_new w _, Nat.le_refl _, by unfold maxLen; omega, hs, by rw [List.take_of_length_le (by simp [hs])]⟩⟩ ((Keeps.refl _ w).alloc _) (fun b hb => ?_)
  simp [Res.row, Value.ownBlock] at hb; omega
theorem Sep.idmAt {w0 w : World} {rs : List Res} (S : Sep w0 w rs) {g : Nat} (hg : w.heap.size = g) : Sep w0 (w.alloc (.map #[] 0)) (Res.idm g [] :: rs) := by
  subst hg
  exact S.add (r := Res.idm w.heap.size []) ⟨⟨#[], 0, heap_alloc_new w _, rfl⟩, .nil, by simp⟩ ((Keeps.refl _ w).alloc _) (fun b hb => Nat.le_of_eq (Eq.symm hb))

/-- Pairs, as cells. -/
def prs (E : List (Nat × Nat)) : List Value := (E.map fun p => [Value.int .i64 (p.1 : Int), .int .i64 (p.2 : Int)]).flatten
theorem prs_rep (n : Nat) : prs (List.replicate n (0, 0)) = (madeCells #[.int .i64 0, .int .i64 0] (n * 2)).toList := by
  refine Eq.trans ?_ (made_flat #[.int .i64 0, .int .i64 0] n (by simp)).symm
  unfold prs; rw [List.map_replicate]; rfl
theorem prs_len : ∀ E, (prs E).length = E.length * 2
  | [] => rfl
  | p :: E => by have := prs_len E; unfold prs at this ⊢; simp only [List.map_cons, List.flatten_cons, List.length_append, List.length_cons, List.length_nil, this]; omega
theorem prs_cons (p : Nat × Nat) (E : List (Nat × Nat)) : prs (p :: E) = .int .i64 (p.1 : Int) :: .int .i64 (p.2 : Int) :: prs E := by unfold prs; simp
theorem prs_get : ∀ (E : List (Nat × Nat)) (i : Nat), i < E.length → (prs E)[i * 2]? = some (.int .i64 ((E.getD i (0, 0)).1 : Int)) ∧ (prs E)[i * 2 + 1]? = some (.int .i64 ((E.getD i (0, 0)).2 : Int))
  | [], i, h => by simp at h
  | p :: E, 0, _ => by rw [prs_cons]; simp
  | p :: E, i + 1, h => by
    have := prs_get E i (by simpa using h)
    rw [prs_cons, show (i + 1) * 2 = i * 2 + 1 + 1 by omega]
    simpa using this
theorem prs_set : ∀ (E : List (Nat × Nat)) (i a b : Nat), prs (E.set i (a, b)) = ((prs E).set (i * 2) (.int .i64 (a : Int))).set (i * 2 + 1) (.int .i64 (b : Int))
  | [], i, a, b => by simp [prs]
  | p :: E, 0, a, b => by rw [prs_cons]; simp [prs_cons]
  | p :: E, i + 1, a, b => by
    rw [List.set_cons_succ, prs_cons, prs_cons, prs_set E i a b, show (i + 1) * 2 = i * 2 + 1 + 1 by omega, show i * 2 + 1 + 1 + 1 = (i * 2 + 1) + 1 + 1 by omega]
    rfl

/-- Roles, as cells. -/
def rls (R : List (Int × ByteArray × ByteArray)) : List Value := (R.map fun p => [Value.int .i64 p.1, .string p.2.1, .string p.2.2]).flatten
def r0 : Int × ByteArray × ByteArray := (0, ⟨#[]⟩, ⟨#[]⟩)
theorem rls_rep (n : Nat) : rls (List.replicate n r0) = (madeCells #[.int .i64 0, .string ⟨#[]⟩, .string ⟨#[]⟩] (n * 3)).toList := by
  refine Eq.trans ?_ (made_flat #[.int .i64 0, .string ⟨#[]⟩, .string ⟨#[]⟩] n (by simp)).symm
  unfold rls; rw [List.map_replicate]; rfl
theorem rls_cons (p : Int × ByteArray × ByteArray) (R : List (Int × ByteArray × ByteArray)) : rls (p :: R) = .int .i64 p.1 :: .string p.2.1 :: .string p.2.2 :: rls R := by unfold rls; simp
theorem rls_len : ∀ R, (rls R).length = R.length * 3
  | [] => rfl
  | p :: R => by rw [rls_cons]; simp only [List.length_cons, rls_len R]; omega
theorem rls_get : ∀ (R : List (Int × ByteArray × ByteArray)) (i : Nat), i < R.length → (rls R)[i * 3]? = some (.int .i64 (R.getD i r0).1) ∧ (rls R)[i * 3 + 1]? = some (.string (R.getD i r0).2.1) ∧ (rls R)[i * 3 + 2]? = some (.string (R.getD i r0).2.2)
  | [], i, h => by simp at h
  | p :: R, 0, _ => by rw [rls_cons]; simp
  | p :: R, i + 1, h => by
    have := rls_get R i (by simpa using h)
    rw [rls_cons, show (i + 1) * 3 = i * 3 + 1 + 1 + 1 by omega]
    simpa using this
theorem rls_set : ∀ (R : List (Int × ByteArray × ByteArray)) (i : Nat) (p : Int × ByteArray × ByteArray), rls (R.set i p) = (((rls R).set (i * 3) (.int .i64 p.1)).set (i * 3 + 1) (.string p.2.1)).set (i * 3 + 2) (.string p.2.2)
  | [], i, p => by simp [rls]
  | q :: R, 0, p => by rw [rls_cons]; simp [rls_cons]
  | q :: R, i + 1, p => by
    rw [List.set_cons_succ, rls_cons, rls_cons, rls_set R i p, show (i + 1) * 3 = i * 3 + 1 + 1 + 1 by omega, show i * 3 + 1 + 1 + 1 + 1 = (i * 3 + 1) + 1 + 1 + 1 by omega, show i * 3 + 1 + 1 + 1 + 2 = (i * 3 + 2) + 1 + 1 + 1 by omega]
    rfl
end Go.Proofs.Ybulkcdco
