import Derived.Test.YbulkcdcoTs
namespace Go.Proofs.Ybulkcdco

/-- The stack on its way down to v. -/
structure Po (N f v : Nat) (st cm cm' : List Nat) (os' : List Bool) (stk : List Nat) : Prop where
  ex : ∃ t1, st = stk ++ t1 ∧ (∀ x ∈ t1, cm'.getD x 0 = f) ∧ ∀ x, x ∉ t1 → cm'.getD x 0 = cm.getD x 0
  mem : v ∈ stk
  lc : cm'.length = N
  lo : os'.length = N
  on : ∀ x, os'.getD x false = true ↔ x ∈ stk

section
variable {A : List (List Nat)} {N : Nat} {ix lw cm cm' : List Nat} {os os' : List Bool} {ne : Nat → Nat} {st pn sx p0 : List Nat} {vis f v z : Nat}
theorem TS.nodup (h : TS A N ix lw cm os ne st pn vis f) : st.Nodup := by
  refine h.t.srt.imp ?_
  intro a b hab e
  subst e; omega
theorem Po.start (h : TS A N ix lw cm os ne st pn vis f) (hv : v ∈ st) : Po N f v st cm cm os st :=
  ⟨⟨[], by simp, (fun x hx => by cases hx), fun _ _ => rfl⟩, hv, h.lc, h.lo, h.on⟩
theorem Po.cmSet (h : Po N f v st cm cm' os' (sx ++ [z])) (hz : z < N) : ∃ t1, st = sx ++ z :: t1 ∧ (∀ x ∈ z :: t1, (cm'.set z f).getD x 0 = f) ∧ ∀ x, x ∉ z :: t1 → (cm'.set z f).getD x 0 = cm.getD x 0 := by
  obtain ⟨t1, h1, h2, h3⟩ := h.ex
  refine ⟨t1, by rw [h1]; simp, fun x hx => ?_, fun x hx => ?_⟩
  · rw [getD_set cm' z f x (by rw [h.lc]; exact hz)]
    split
    · rfl
    · rename_i e
      rcases List.mem_cons.1 hx with e' | hx
      · exact absurd e' e
      · exact h2 x hx
  · rw [getD_set cm' z f x (by rw [h.lc]; exact hz)]
    simp only [List.mem_cons, not_or] at hx
    rw [if_neg hx.1]
    exact h3 x hx.2
theorem Po.osSet (h : Po N f v st cm cm' os' (sx ++ [z])) (hn : st.Nodup) (hz : z < N) (x : Nat) : (os'.set z false).getD x false = true ↔ x ∈ sx := by
  obtain ⟨t1, h1, -, -⟩ := h.ex
  rw [os_set os' z x false (by rw [h.lo]; exact hz)]
  have hzx : z ∉ sx := fun hm => by
    rw [h1, List.append_assoc] at hn
    exact (List.nodup_append.1 hn).2.2 z hm z (by simp) rfl
  split
  · rename_i e; subst e; simp [hzx]
  · rename_i e; rw [h.on x]; simp [e]
theorem Po.step (h : Po N f v st cm cm' os' (sx ++ [z])) (hn : st.Nodup) (hz : z < N) (hne : z ≠ v) : Po N f v st cm (cm'.set z f) (os'.set z false) sx := by
  obtain ⟨t1, h1, h2, h3⟩ := h.cmSet hz
  refine ⟨⟨z :: t1, h1, h2, h3⟩, ?_, by simp [h.lc], by simp [h.lo], h.osSet hn hz⟩
  have := h.mem
  simp only [List.mem_append, List.mem_singleton] at this
  exact this.resolve_right (fun e => hne e.symm)
theorem Po.last (h : Po N f v st cm cm' os' (sx ++ [v])) (hT : TS A N ix lw cm os ne st (p0 ++ [v]) vis f) (hvN : v < N) (hd : (A.getD v []).length ≤ ne v) (hl : lw.getD v 0 = ix.getD v 0) : TS A N ix lw (cm'.set v f) (os'.set v false) ne sx p0 vis (f + 1) := by
  obtain ⟨t1, h1, h2, h3⟩ := h.cmSet hvN
  have ho := h.osSet hT.nodup hvN
  rw [h1] at hT
  exact hT.root hd hl (by simp [h.lc]) (by simp [h.lo]) h2 h3 ho
theorem TS.lowb (h : TS A N ix lw cm os ne st pn vis f) (hv : v ∈ pn) : ∃ s ∈ st, ix.getD s 0 ≤ lw.getD v 0 := (h.t.lwb v (h.t.sub.subset hv)).2
end
end Go.Proofs.Ybulkcdco
