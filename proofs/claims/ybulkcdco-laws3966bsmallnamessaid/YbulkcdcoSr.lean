import Derived.Test.YbulkcdcoStp
namespace Go.Proofs.Ybulkcdco

def Nb (A : List (List Nat)) (x y : Nat) : Prop := y ∈ A.getD x []

/-- One side of a search from a: what is seen, what is to be looked at. -/
structure Side (A : List (List Nat)) (a s N : Nat) (sn FS : List Nat) : Prop where
  len : sn.length = N
  le : ∀ x, sn.getD x 0 ≤ s
  start : sn.getD a 0 = s
  way : ∀ x, sn.getD x 0 = s → Way (Nb A) a x
  shut : ∀ x, sn.getD x 0 = s → x ∉ FS → ∀ y ∈ A.getD x [], sn.getD y 0 = s
  stk : ∀ x ∈ FS, x < N ∧ sn.getD x 0 = s
  cnt : FS.length + unseen s sn ≤ N

theorem unseen_all (s : Nat) (sn : List Nat) (N : Nat) (hl : sn.length = N) : unseen s sn ≤ N := by have := unseen_le s sn; omega
theorem Side.init (A : List (List Nat)) (a s N : Nat) (sn : List Nat) (hl : sn.length = N) (ha : a < N) (hs : ∀ x, sn.getD x 0 < s) : Side A a s N (sn.set a s) [a] := by
  have g : ∀ v, (sn.set a s).getD v 0 = if v = a then s else sn.getD v 0 := fun v => getD_set sn a s v (by omega)
  have only : ∀ x, (sn.set a s).getD x 0 = s → x = a := fun x hx => by
    rw [g] at hx
    split at hx
    · assumption
    · have := hs x; omega
  refine ⟨by simp [hl], fun x => ?_, by rw [g]; simp, fun x hx => ?_, fun x hx hn => ?_, fun x hx => ?_, ?_⟩
  · rw [g]; split
    · exact Nat.le_refl _
    · exact Nat.le_of_lt (hs x)
  · rw [only x hx]; exact .refl _
  · exact absurd (by simp [only x hx]) hn
  · simp at hx; subst hx; exact ⟨ha, by rw [g]; simp⟩
  · have := unseen_set s sn a (by omega) (by have := hs a; omega)
    have := unseen_le s sn
    simp; omega

section
variable {A A' : List (List Nat)} {a b s N v j : Nat} {sn ot FS TS S0 sn' T : List Nat}
/-- A step that met nothing. -/
theorem Side.step (h : Side A a s N sn (S0 ++ [v])) (hw : ∀ x ∈ A.getD v [], x < N) (hI : StepI (A.getD v []) sn ot s j sn' T) (hj : j = (A.getD v []).length) : Side A a s N sn' (S0 ++ T) := by
  have hv := h.stk v (by simp)
  refine ⟨by rw [hI.len]; exact h.len, fun x => ?_, hI.old _ h.start, fun x hx => ?_, fun x hx hn y hy => ?_, fun x hx => ?_, ?_⟩
  · rcases hI.keep x with e | e
    · rw [e]; exact h.le x
    · rw [e]; exact Nat.le_refl _
  · rcases hI.all x hx with h1 | h1
    · exact h.way x h1
    · exact .tail (h.way v hv.2) (hI.new x h1).2.2
  · simp only [List.mem_append, not_or] at hn
    have h1 : sn.getD x 0 = s := by
      rcases hI.all x hx with h1 | h1
      · exact h1
      · exact absurd h1 hn.2
    by_cases e : x = v
    · subst e
      obtain ⟨i, hi, rfl⟩ := List.getElem_of_mem hy
      exact (hI.done i _ (by omega) (List.getElem?_eq_getElem hi)).1
    · exact hI.old y (h.shut x h1 (by simp [hn.1, e]) y hy)
  · simp only [List.mem_append] at hx
    rcases hx with hx | hx
    · have := h.stk x (by simp [hx]); exact ⟨this.1, hI.old x this.2⟩
    · have := hI.new x hx; exact ⟨hw x this.2.2, this.2.1⟩
  · have h1 := h.cnt
    have h2 := hI.cnt
    simp only [List.length_append, List.length_singleton] at h1 ⊢
    omega
/-- .. and the two sides stay apart. -/
theorem Side.apart (hd : ∀ x, sn.getD x 0 = s → ot.getD x 0 ≠ s) (hI : StepI (A.getD v []) sn ot s j sn' T) (hj : j = (A.getD v []).length) : ∀ x, sn'.getD x 0 = s → ot.getD x 0 ≠ s := by
  intro x hx
  rcases hI.all x hx with h1 | h1
  · exact hd x h1
  · obtain ⟨i, hi, e⟩ := List.getElem_of_mem (hI.new x h1).2.2
    exact (hI.done i x (by omega) (by rw [List.getElem?_eq_getElem hi, e])).2
/-- Nothing left to look at: the other end is not reached. -/
theorem Side.none (h : Side A a s N sn []) (hb : sn.getD b 0 ≠ s) : ¬ Way (Nb A) a b := fun hw =>
  hb (hw.closed (P := fun x => sn.getD x 0 = s) (fun x y hx hxy => h.shut x hx (by simp) y hxy) h.start)
end
end Go.Proofs.Ybulkcdco
