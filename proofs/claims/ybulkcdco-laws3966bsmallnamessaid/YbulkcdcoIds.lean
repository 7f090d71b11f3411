import Derived.Test.YbulkcdcoPath
/-
  Names numbered by their first appearance. No Go.
-/
namespace Go.Proofs.Ybulkcdco
open Classical

noncomputable def addN (ns : List ByteArray) (s : ByteArray) : List ByteArray := if s ∈ ns then ns else ns ++ [s]
theorem addN_of {ns ns' : List ByteArray} {s : ByteArray} {i : Nat} (hi : ns'[i]? = some s) (h : ns' = ns ∨ (s ∉ ns ∧ ns' = ns ++ [s])) : ns' = addN ns s := by
  unfold addN
  rcases h with rfl | ⟨h1, rfl⟩
  · rw [if_pos (List.mem_of_getElem? hi)]
  · rw [if_neg h1]
theorem addN_pre (ns : List ByteArray) (s : ByteArray) : ns <+: addN ns s := by
  unfold addN; split
  · exact List.prefix_refl _
  · exact List.prefix_append _ _
theorem addN_nodup {ns : List ByteArray} (h : ns.Nodup) (s : ByteArray) : (addN ns s).Nodup := by
  unfold addN; split
  · exact h
  · rename_i hs
    refine List.nodup_append.2 ⟨h, by simp, fun a ha b hb e => ?_⟩
    simp at hb; exact hs (hb ▸ e ▸ ha)
theorem addN_len (ns : List ByteArray) (s : ByteArray) : (addN ns s).length ≤ ns.length + 1 := by unfold addN; split <;> simp
theorem addN_mem (ns : List ByteArray) (s : ByteArray) : s ∈ addN ns s := by unfold addN; split <;> simp_all

/-- The names behind k rows. -/
noncomputable def nm (L : List (ByteArray × ByteArray)) : Nat → List ByteArray
  | 0 => []
  | k + 1 => addN (addN (nm L k) (L.getD k (⟨#[]⟩, ⟨#[]⟩)).1) (L.getD k (⟨#[]⟩, ⟨#[]⟩)).2
theorem nm_nodup (L : List (ByteArray × ByteArray)) : ∀ k, (nm L k).Nodup
  | 0 => .nil
  | k + 1 => addN_nodup (addN_nodup (nm_nodup L k) _) _
theorem nm_len (L : List (ByteArray × ByteArray)) : ∀ k, (nm L k).length ≤ 2 * k
  | 0 => by simp [nm]
  | k + 1 => by
    have h1 := addN_len (nm L k) (L.getD k (⟨#[]⟩, ⟨#[]⟩)).1
    have h2 := addN_len (addN (nm L k) (L.getD k (⟨#[]⟩, ⟨#[]⟩)).1) (L.getD k (⟨#[]⟩, ⟨#[]⟩)).2
    have h3 := nm_len L k
    show (addN (addN (nm L k) _) _).length ≤ _
    omega
theorem nm_pre (L : List (ByteArray × ByteArray)) (k : Nat) : ∀ j, nm L k <+: nm L (k + j)
  | 0 => List.prefix_refl _
  | j + 1 => (nm_pre L k j).trans ((addN_pre _ _).trans (addN_pre _ _))

noncomputable def idx (ns : List ByteArray) (s : ByteArray) : Nat := if h : ∃ i, ns[i]? = some s then Classical.choose h else 0
theorem idx_of {ns : List ByteArray} (hn : ns.Nodup) {i : Nat} {s : ByteArray} (h : ns[i]? = some s) : idx ns s = i := by
  have hex : ∃ i, ns[i]? = some s := ⟨i, h⟩
  unfold idx
  rw [dif_pos hex]
  have h1 := Classical.choose_spec hex
  obtain ⟨a1, b1⟩ := List.getElem?_eq_some_iff.1 h1
  obtain ⟨a2, b2⟩ := List.getElem?_eq_some_iff.1 h
  exact (List.getElem_inj (xs := ns) hn (h₀ := a1) (h₁ := a2)).1 (b1.trans b2.symm)
theorem idx_pre {ns ns' : List ByteArray} (hn : ns'.Nodup) (hp : ns <+: ns') {i : Nat} {s : ByteArray} (h : ns[i]? = some s) : idx ns' s = i := by
  refine idx_of hn ?_
  obtain ⟨t, rfl⟩ := hp
  rw [List.getElem?_append_left (List.getElem?_eq_some_iff.1 h).1]; exact h

/-- The rows as pairs of numbers. -/
noncomputable def eOf (L : List (ByteArray × ByteArray)) : List (Nat × Nat) := L.map fun p => (idx (nm L L.length) p.1, idx (nm L L.length) p.2)
theorem eOf_len (L : List (ByteArray × ByteArray)) : (eOf L).length = L.length := by simp [eOf]
theorem eOf_get (L : List (ByteArray × ByteArray)) (k : Nat) (hk : k < L.length) {n1 n2 : List ByteArray} {m r : ByteArray} {i j : Nat} (hL : L.getD k (⟨#[]⟩, ⟨#[]⟩) = (m, r)) (h1 : n1 = addN (nm L k) m) (hi : n1[i]? = some m) (h2 : n2 = addN n1 r) (hj : n2[j]? = some r) :
    (eOf L).getD k (0, 0) = (i, j) ∧ n2 = nm L (k + 1) := by
  have e2 : n2 = nm L (k + 1) := by
    rw [h2, h1]
    show _ = addN (addN (nm L k) (L.getD k (⟨#[]⟩, ⟨#[]⟩)).1) (L.getD k (⟨#[]⟩, ⟨#[]⟩)).2
    rw [hL]
  have hp2 : n2 <+: nm L L.length := by
    rw [e2]
    have := nm_pre L (k + 1) (L.length - (k + 1))
    rwa [show k + 1 + (L.length - (k + 1)) = L.length by omega] at this
  have hp1 : n1 <+: nm L L.length := (by rw [h2] at hp2; exact (addN_pre n1 r).trans hp2)
  refine ⟨?_, e2⟩
  have hg : L[k] = (m, r) := by simpa [hk] using hL
  have : (eOf L).getD k (0, 0) = (idx (nm L L.length) L[k].1, idx (nm L L.length) L[k].2) := by simp [eOf, hk]
  rw [this, hg, idx_pre (nm_nodup L _) hp1 hi, idx_pre (nm_nodup L _) hp2 hj]
theorem eOf_lt (L : List (ByteArray × ByteArray)) : ∀ p ∈ eOf L, p.1 < (nm L L.length).length ∧ p.2 < (nm L L.length).length := by
  intro p hp
  obtain ⟨k, hk, rfl⟩ := List.getElem_of_mem hp
  have hk' : k < L.length := by rw [← eOf_len L]; exact hk
  have h1 : L.getD k (⟨#[]⟩, ⟨#[]⟩) = (L[k].1, L[k].2) := by simp [hk']
  obtain ⟨i, hi⟩ : ∃ i, (addN (nm L k) L[k].1)[i]? = some L[k].1 := by
    obtain ⟨i, hi, e⟩ := List.getElem_of_mem (addN_mem (nm L k) L[k].1); exact ⟨i, by rw [List.getElem?_eq_getElem hi, e]⟩
  obtain ⟨j, hj⟩ : ∃ j, (addN (addN (nm L k) L[k].1) L[k].2)[j]? = some L[k].2 := by
    obtain ⟨j, hj, e⟩ := List.getElem_of_mem (addN_mem (addN (nm L k) L[k].1) L[k].2); exact ⟨j, by rw [List.getElem?_eq_getElem hj, e]⟩
  obtain ⟨h2, h3⟩ := eOf_get L k hk' h1 rfl hi rfl hj
  have hpre := nm_pre L (k + 1) (L.length - (k + 1))
  rw [show k + 1 + (L.length - (k + 1)) = L.length by omega, ← h3] at hpre
  have hle := hpre.length_le
  have hi' := (List.getElem?_eq_some_iff.1 hi).1
  have hj' := (List.getElem?_eq_some_iff.1 hj).1
  have hpl := (addN_pre (addN (nm L k) L[k].1) L[k].2).length_le
  have h4 : (eOf L)[k] = (i, j) := by simpa [hk] using h2
  rw [h4]
  exact ⟨by show i < _; omega, by show j < _; omega⟩
end Go.Proofs.Ybulkcdco
