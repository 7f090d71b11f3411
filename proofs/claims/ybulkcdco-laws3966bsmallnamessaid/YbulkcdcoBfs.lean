import Derived.Test.YbulkcdcoSr
namespace Go.Proofs.Ybulkcdco

/-- Marks as numbers. -/
def b2n (l : List Bool) : List Nat := l.map fun b => if b then 1 else 0
theorem b2n_len (l : List Bool) : (b2n l).length = l.length := by simp [b2n]
theorem b2n_get (l : List Bool) (x : Nat) : (b2n l).getD x 0 = if l.getD x false then 1 else 0 := by
  by_cases h : x < l.length
  · simp [b2n, h]
  · simp [b2n, Nat.not_lt.1 h]
theorem b2n_one (l : List Bool) (x : Nat) : (b2n l).getD x 0 = 1 ↔ l.getD x false = true := by rw [b2n_get]; split <;> simp_all
theorem b2n_set (l : List Bool) (x : Nat) : b2n (l.set x true) = (b2n l).set x 1 := by simp [b2n, List.map_set]

theorem Side.perm {A : List (List Nat)} {a s N : Nat} {sn FS FS' : List Nat} (h : Side A a s N sn FS) (p : FS.Perm FS') : Side A a s N sn FS' :=
  ⟨h.len, h.le, h.start, h.way, fun x hx hn => h.shut x hx (fun hm => hn (p.mem_iff.1 hm)), fun x hx => h.stk x (p.mem_iff.2 hx), by rw [← p.length_eq]; exact h.cnt⟩
/-- The first of the queue is looked at. -/
theorem Side.deq {A : List (List Nat)} {a s N v j : Nat} {sn ot R sn' T : List Nat} (h : Side A a s N sn (v :: R)) (hw : ∀ x ∈ A.getD v [], x < N) (hI : StepI (A.getD v []) sn ot s j sn' T) (hj : j = (A.getD v []).length) : Side A a s N sn' (R ++ T) :=
  (h.perm (List.perm_append_singleton v R).symm).step hw hI hj

/-- A search in breadth: the queue, how far it has been looked at. -/
structure Bf (A : List (List Nat)) (r m N : Nat) (seen : List Bool) (Q : List Nat) (q : Nat) : Prop where
  side : Side A r 1 N (b2n seen) (Q.drop q)
  all : ∀ x, seen.getD x false = true → x ∈ Q
  off : ∀ i x, i < q → Q[i]? = some x → x ≠ m
  le : q ≤ Q.length

theorem Bf.start (A : List (List Nat)) (r m N : Nat) (hr : r < N) : Bf A r m N ((List.replicate N false).set r true) [r] 0 := by
  have hz : ∀ x, (List.replicate N false).getD x false = false := fun x => by simp only [List.getD_eq_getElem?_getD, List.getElem?_replicate]; split <;> rfl
  refine ⟨?_, fun x hx => ?_, fun i x h => by omega, by omega⟩
  · rw [b2n_set]
    refine Side.init A r 1 N _ (by simp [b2n]) hr (fun x => ?_)
    rw [b2n_get, hz]; simp
  · by_cases e : x = r
    · simp [e]
    · simp only [List.getD_eq_getElem?_getD, List.getElem?_set_ne (fun h => e h.symm)] at hx
      have := hz x
      simp only [List.getD_eq_getElem?_getD] at this
      rw [this] at hx; cases hx
section
variable {A : List (List Nat)} {r m N q : Nat} {seen : List Bool} {Q : List Nat}
theorem Bf.found (h : Bf A r m N seen Q q) (hm : Q[q]? = some m) : Way (Nb A) r m := by
  have hx : m ∈ Q.drop q := by
    have := List.getElem?_drop (xs := Q) (i := q) (j := 0)
    rw [Nat.add_zero, hm] at this
    exact List.mem_of_getElem? this
  exact h.side.way m (h.side.stk m hx).2
theorem Bf.none (h : Bf A r m N seen Q Q.length) : ¬ Way (Nb A) r m := by
  have h1 := h.side
  rw [List.drop_length] at h1
  refine h1.none (fun hm => ?_)
  have := h.all m ((b2n_one seen m).1 hm)
  obtain ⟨i, hi, e⟩ := List.getElem_of_mem this
  exact h.off i m hi (by rw [List.getElem?_eq_getElem hi, e]) rfl
theorem Bf.next (h : Bf A r m N seen Q q) {v j : Nat} {seen' : List Bool} {T : List Nat} (hv : Q[q]? = some v) (hne : v ≠ m) (hw : ∀ x ∈ A.getD v [], x < N) (hI : StepI (A.getD v []) (b2n seen) [] 1 j (b2n seen') T) (hj : j = (A.getD v []).length) : Bf A r m N seen' (Q ++ T) (q + 1) := by
  have hq : q < Q.length := (List.getElem?_eq_some_iff.1 hv).1
  have hd : Q.drop q = v :: Q.drop (q + 1) := by rw [List.drop_eq_getElem_cons hq, (List.getElem?_eq_some_iff.1 hv).2]
  have h1 := h.side
  rw [hd] at h1
  refine ⟨?_, fun x hx => ?_, fun i x hi hx => ?_, by simp; omega⟩
  · have := h1.deq hw hI hj
    rw [List.drop_append_of_le_length (by omega)]; exact this
  · rcases hI.all x ((b2n_one seen' x).2 hx) with h2 | h2
    · exact List.mem_append_left _ (h.all x ((b2n_one seen x).1 h2))
    · exact List.mem_append_right _ h2
  · rw [List.getElem?_append_left (by omega)] at hx
    by_cases e : i = q
    · subst e; rw [hv] at hx; cases hx; exact hne
    · exact h.off i x (by omega) hx
theorem Bf.qlen (h : Bf A r m N seen Q q) : Q.length - q + unseen 1 (b2n seen) ≤ N := by
  have := h.side.cnt
  rw [List.length_drop] at this; exact this
end
end Go.Proofs.Ybulkcdco
