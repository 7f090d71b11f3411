import Derived.Test.YbulkcdcoRws
import Derived.Test.YbulkcdcoMp
import Derived.Test.YbulkcdcoPath
import Derived.Laws.CopyOwn
import Derived.Lib.SlBuf
/-
  copy and == over roles.
-/
namespace Go.Proofs.Ybulkcdco
open Go.RowKit

theorem Yba.info53 : (Yba.prog.info? 53).map (fun i => (i.zero, i.size, i.bytes)) = some (some (.agg #[.int .i64 0, .string ⟨#[]⟩, .string ⟨#[]⟩]), 3, 40) := by kernel_rfl
theorem kt53 : Yba.prog.keyType 53 = true := by kernel_rfl
theorem sz53 : Yba.prog.cellsOf 53 = 3 := by kernel_rfl
theorem sz3' : Yba.prog.cellsOf 3 = 1 := by kernel_rfl
theorem key53 (l : Int) (m r : ByteArray) (hl : (Lit.int .i64 l).wf = true) (m1 : m.size ≤ maxLen) (m2 : r.size ≤ maxLen) : ∃ k, keyOf Yba.prog 53 (.agg #[.int .i64 l, .string m, .string r]) = some k := by
  obtain ⟨q, hq⟩ := tys
  unfold keyOf
  simp only [Yba.underlying53, kt53, Value.formed, sz53, hq]
  rw [if_pos (by rfl)]
  simp [Program.keyLits, Yba.underlying53, Yba.underlying3, Yba.underlying9, Value.cells, sz53, sz3', sz9, m1, m2, hl]
theorem eq53 (w : World) (l : Int) (m r : ByteArray) (hl : (Lit.int .i64 l).wf = true) (m1 : m.size ≤ maxLen) (m2 : r.size ≤ maxLen) : (Op.equalIn 10000 53 (.agg #[.int .i64 l, .string m, .string r]) (.agg #[.int .i64 l, .string m, .string r])).run Yba.prog w = .ok true w := by
  obtain ⟨k, hk⟩ := key53 l m r hl m1 m2
  obtain ⟨b, hb, hbi⟩ := run_equal_deep w (m := 3) (by omega) (by kernel_rfl) (by kernel_rfl) hk hk
  rw [hbi.2 rfl] at hb
  exact hb

theorem Keeps.setRow (w : World) (g : Nat) (cs : Array Value) : Keeps (fun b => b = g) w (w.setRow g cs) :=
  ⟨rfl, rfl, rfl, by simp [World.setRow], fun k _ hk => setRow_other w g k cs hk⟩
theorem add_next (q : Addr) (m t : Nat) : q.add (m + (t + 1)) = ⟨(q.add m).block, (q.add m).off + (t + 1), none⟩ := by
  cases m with
  | zero => simp [Addr.add]
  | succ m => simp [Addr.add]; omega
theorem rls_one (R : List (Int × ByteArray × ByteArray)) : ∀ v ∈ rls R, v.oneCell' = true := by
  intro v hv
  unfold rls at hv
  simp only [List.mem_flatten, List.mem_map] at hv
  obtain ⟨l, ⟨p, -, rfl⟩, hv⟩ := hv
  simp only [List.mem_cons, List.not_mem_nil, or_false] at hv
  rcases hv with rfl | rfl | rfl <;> rfl
/-- The rows that came in, cell by cell. -/
def RolesAt (w : World) (a : Option Addr) (R : List (Int × ByteArray × ByteArray)) : Prop :=
  ∀ i, i < R.length → ∃ a0, a = some a0 ∧ w.cell? (a0.add (i * 3)) = some (.int .i64 (R.getD i r0).1) ∧ w.cell? ⟨(a0.add (i * 3)).block, (a0.add (i * 3)).off + 1, none⟩ = some (.string (R.getD i r0).2.1) ∧ w.cell? ⟨(a0.add (i * 3)).block, (a0.add (i * 3)).off + 2, none⟩ = some (.string (R.getD i r0).2.2)
theorem RolesAt.src {w : World} {a0 : Addr} {R : List (Int × ByteArray × ByteArray)} (h : RolesAt w (some a0) R) : ∀ j v, (rls R)[j]? = some v → w.cell? (a0.add j) = some v := by
  intro j v hv
  have hj : j < R.length * 3 := by rw [← rls_len]; exact (List.getElem?_eq_some_iff.1 hv).1
  have hi : j / 3 < R.length := by omega
  obtain ⟨b, hb, c0, c1, c2⟩ := h (j / 3) hi
  cases hb
  obtain ⟨g0, g1, g2⟩ := rls_get R (j / 3) hi
  have hc : j = j / 3 * 3 ∨ j = j / 3 * 3 + 1 ∨ j = j / 3 * 3 + 2 := by omega
  rcases hc with e | e | e
  · rw [e] at hv ⊢
    rw [g0] at hv; cases hv; exact c0
  · rw [e] at hv ⊢
    rw [g1] at hv; cases hv
    rw [add_next _ _ 0]; exact c1
  · rw [e] at hv ⊢
    rw [g2] at hv; cases hv
    rw [add_next _ _ 1]; exact c2
theorem run_copy3 (w : World) (ty : TypeId) (g n c : Nat) (a : Addr) (cur : Array Value) (cs : List Value) (hg : w.heap[g]? = some (.cells cur 53 (0, 0))) (hcs : cs.length = n * 3) (hcur : cur.size = n * 3) (hsrc : ∀ j v, cs[j]? = some v → w.cell? (a.add j) = some v) (h1 : ∀ v ∈ cs, v.oneCell' = true) :
    (Builtin.copy_ #[48, 48] ty #[.slice (some ⟨g, 0, none⟩) n n, .slice (some a) n c]).run Yba.prog w = .ok (goInt n) (w.setRow g cs.toArray) := by
  obtain ⟨i, hi, hz, hs, hb⟩ := info_parts Yba.info53
  have hl := run_loadCells_list (P := Yba.prog) w a cs hsrc
  have hst := run_storeCells_at Yba.prog g 0 53 cs 0 cur w hg (by omega) h1
  rw [hcs] at hl
  have e : (List.take (0 + 0) cur.toList ++ cs ++ List.drop (0 + 0 + cs.length) cur.toList).toArray = cs.toArray := by
    rw [List.drop_of_length_le (by simp; omega)]; simp
  rw [e] at hst
  simp [Builtin.copy_, run_underlying Yba.underlying48, Builtin.lenOf, Builtin.firstCells, sizeOf, typeInfo, hi, hs, hl, hst]
theorem run_copy0 (w : World) (ty : TypeId) (g c : Nat) (a : Option Addr) :
    (Builtin.copy_ #[48, 48] ty #[.slice (some ⟨g, 0, none⟩) 0 0, .slice a 0 c]).run Yba.prog w = .ok (goInt 0) w := by
  obtain ⟨i, hi, hz, hs, hb⟩ := info_parts Yba.info53
  have hl : ∀ (x : Addr), (loadCells x 0).run Yba.prog w = .ok #[] w := fun x => by simpa using run_loadCells_list (P := Yba.prog) w x [] (by simp)
  cases a <;> simp [Builtin.copy_, run_underlying Yba.underlying48, Builtin.lenOf, Builtin.firstCells, sizeOf, typeInfo, hi, hl, storeCells]
theorem copy_any {w0 w : World} {g n c : Nat} {a : Option Addr} {R R0 : List (Int × ByteArray × ByteArray)} (S : Sep w0 w [Res.row 53 3 (.slice (some ⟨g, 0, none⟩) n n) n (rls R0)]) (hR : R.length = n) (h : RolesAt w a R) :
    ∃ w2, (∀ ty, (Builtin.copy_ #[48, 48] ty #[.slice (some ⟨g, 0, none⟩) n n, .slice a n c]).run Yba.prog w = .ok (goInt n) w2) ∧ Sep w0 w2 [Res.row 53 3 (.slice (some ⟨g, 0, none⟩) n n) n (rls R)] := by
  by_cases h0 : n = 0
  · subst h0
    obtain rfl : R = [] := List.eq_nil_of_length_eq_zero hR
    have ho : w.ownsRow 0 53 3 (.slice (some ⟨g, 0, none⟩) 0 0) 0 (rls R0) := S.head
    have e : rls R0 = [] := List.eq_nil_of_length_eq_zero (by have := ho.1; simpa using this)
    rw [e] at S
    exact ⟨w, fun ty => run_copy0 w ty g c a, S⟩
  · obtain ⟨a0, rfl, -⟩ := h 0 (by omega)
    have ho : w.ownsRow 0 53 3 (.slice (some ⟨g, 0, none⟩) n n) n (rls R0) := S.head
    rcases ho.2 with ⟨h', _⟩ | ⟨g', cap', cur, h', hb, hg, hnc, hcm, hcs, htake⟩
    · cases h'
    · cases h'
      refine ⟨_, fun ty => run_copy3 w ty g n c a0 cur (rls R) hg (by rw [rls_len, hR]) hcs h.src (rls_one R), ?_⟩
      refine S.upd1 (r' := Res.row 53 3 (.slice (some ⟨g, 0, none⟩) n n) n (rls R)) ⟨by rw [rls_len, hR], .inr ⟨g, n, (rls R).toArray, rfl, hb, setRow_heap w g cur _ 53 _ hg, Nat.le_refl _, hcm, by simp [rls_len, hR], by rw [List.take_of_length_le (by simp [rls_len, hR])]⟩⟩ ?_ (fun b hb => .inl hb)
      refine ⟨rfl, rfl, rfl, by simp [World.setRow], fun k _ hk => setRow_other w g k _ (fun e => hk (by simp [Res.row, Value.ownBlock, e]))⟩
theorem mC_len (e : List (Nat × Nat)) : ∀ k, (mC e k).length ≤ k
  | 0 => by simp [mC]
  | k + 1 => by
    have ih := mC_len e k
    unfold mC
    split
    · rw [List.length_append, List.length_singleton]; omega
    · omega
end Go.Proofs.Ybulkcdco
