import Derived.Test.YbulkcdcoTar
namespace Go.Proofs.Ybulkcdco

/-- How many entries are not s. -/
def unseen (s : Nat) (sn : List Nat) : Nat := (sn.filter (fun x => x != s)).length
theorem getD_set (l : List Nat) (i x v : Nat) (hi : i < l.length) : (l.set i x).getD v 0 = if v = i then x else l.getD v 0 := by
  by_cases h : v = i
  · subst h; simp [hi]
  · rw [if_neg h]; simp [List.getElem?_set_ne (fun e => h e.symm)]
theorem unseen_set (s : Nat) : ∀ (sn : List Nat) (i : Nat), i < sn.length → sn.getD i 0 ≠ s → unseen s (sn.set i s) + 1 = unseen s sn
  | [], i, h, _ => by simp at h
  | a :: sn, 0, _, h => by
    have h' : a ≠ s := by simpa using h
    simp [unseen, h']
  | a :: sn, i + 1, h, hn => by
    have ih := unseen_set s sn i (by simpa using h) (by simpa using hn)
    unfold unseen at ih ⊢
    simp only [List.set_cons_succ, List.filter_cons]
    split
    · simp only [List.length_cons]; omega
    · exact ih
theorem unseen_le (s : Nat) (sn : List Nat) : unseen s sn ≤ sn.length := by unfold unseen; exact List.length_filter_le _ _

/-- A step, part way: j of the nodes ws are looked at; T are pushed. -/
structure StepI (ws sn ot : List Nat) (s j : Nat) (sn' T : List Nat) : Prop where
  len : sn'.length = sn.length
  keep : ∀ x, sn'.getD x 0 = sn.getD x 0 ∨ sn'.getD x 0 = s
  old : ∀ x, sn.getD x 0 = s → sn'.getD x 0 = s
  done : ∀ i x, i < j → ws[i]? = some x → sn'.getD x 0 = s ∧ ot.getD x 0 ≠ s
  new : ∀ x ∈ T, sn.getD x 0 ≠ s ∧ sn'.getD x 0 = s ∧ x ∈ ws
  all : ∀ x, sn'.getD x 0 = s → sn.getD x 0 = s ∨ x ∈ T
  cnt : unseen s sn' + T.length = unseen s sn
  tl : T.length ≤ j

theorem StepI.start (ws sn ot : List Nat) (s : Nat) : StepI ws sn ot s 0 sn [] :=
  ⟨rfl, fun _ => .inl rfl, fun _ h => h, fun i x h => by omega, (fun x h => by cases h), fun x h => .inl h, rfl, Nat.le_refl _⟩
section
variable {ws sn ot sn' T : List Nat} {s j x : Nat}
theorem StepI.skip (h : StepI ws sn ot s j sn' T) (hx : ws[j]? = some x) (ho : ot.getD x 0 ≠ s) (hs : sn'.getD x 0 = s) : StepI ws sn ot s (j + 1) sn' T := by
  refine ⟨h.len, h.keep, h.old, fun i y hi hy => ?_, h.new, h.all, h.cnt, by have := h.tl; omega⟩
  by_cases e : i = j
  · subst e; rw [hx] at hy; cases hy; exact ⟨hs, ho⟩
  · exact h.done i y (by omega) hy
theorem StepI.push (h : StepI ws sn ot s j sn' T) (hx : ws[j]? = some x) (ho : ot.getD x 0 ≠ s) (hs : sn'.getD x 0 ≠ s) (hl : x < sn'.length) : StepI ws sn ot s (j + 1) (sn'.set x s) (T ++ [x]) := by
  have g : ∀ v, (sn'.set x s).getD v 0 = if v = x then s else sn'.getD v 0 := fun v => getD_set sn' x s v hl
  have mono : ∀ v, sn'.getD v 0 = s → (sn'.set x s).getD v 0 = s := fun v hv => by rw [g]; split <;> simp_all
  refine ⟨by simp [h.len], fun v => ?_, fun v hv => mono v (h.old v hv), fun i y hi hy => ?_, fun v hv => ?_, fun v hv => ?_, ?_, by have := h.tl; simp; omega⟩
  · rw [g]; split
    · exact .inr rfl
    · exact h.keep v
  · by_cases e : i = j
    · subst e; rw [hx] at hy; cases hy; exact ⟨by rw [g]; simp, ho⟩
    · have := h.done i y (by omega) hy
      exact ⟨mono y this.1, this.2⟩
  · simp only [List.mem_append, List.mem_singleton] at hv
    rcases hv with hv | rfl
    · have := h.new v hv
      exact ⟨this.1, mono v this.2.1, this.2.2⟩
    · exact ⟨fun e => hs (h.old _ e), by rw [g]; simp, List.mem_of_getElem? hx⟩
  · rw [g] at hv
    split at hv
    · rename_i e; exact .inr (by simp [e])
    · rcases h.all v hv with h1 | h1
      · exact .inl h1
      · exact .inr (by simp [h1])
  · have := unseen_set s sn' x hl hs
    have := h.cnt
    simp only [List.length_append, List.length_singleton]; omega
end
end Go.Proofs.Ybulkcdco
