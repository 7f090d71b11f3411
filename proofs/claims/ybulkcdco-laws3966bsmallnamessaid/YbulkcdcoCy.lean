import Derived.Test.YbulkcdcoPath
import Derived.Test.YbulkcdcoTs
namespace Go.Proofs.Ybulkcdco

/-- The lists hold the pairs. -/
structure Hol (A : List (List Nat)) (K : List (Nat × Nat)) (k : Nat) : Prop where
  edge : ∀ x y, y ∈ A.getD x [] ↔ (x, y) ∈ K
  deg : ∀ x, (A.getD x []).length ≤ k

section
variable {A Ao Ai : List (List Nat)} {K e : List (Nat × Nat)} {k m r N : Nat} {cm : Nat → Nat}
theorem Hol.way (h : Hol A K k) {x y : Nat} : Way (Nb A) x y ↔ Way (In K) x y :=
  ⟨fun hw => hw.mono (fun a b h1 => (h.edge a b).1 h1), fun hw => hw.mono (fun a b h1 => (h.edge a b).2 h1)⟩
theorem Hol.start (M : Nat) : Hol (List.replicate M []) [] 0 := by
  have hz : ∀ x, (List.replicate M ([] : List Nat)).getD x [] = [] := fun x => by simp only [List.getD_eq_getElem?_getD, List.getElem?_replicate]; split <;> rfl
  exact ⟨fun x y => by rw [hz]; simp, fun x => by rw [hz]; simp⟩
theorem Hol.le (h : Hol A K k) : Hol A K (k + 1) := ⟨h.edge, fun x => by have := h.deg x; omega⟩
theorem Hol.add (h : Hol A K k) (hm : m < A.length) : Hol (A.set m (A.getD m [] ++ [r])) (K ++ [(m, r)]) (k + 1) := by
  have g : ∀ x, (A.set m (A.getD m [] ++ [r])).getD x [] = if x = m then A.getD m [] ++ [r] else A.getD x [] := fun x => by
    by_cases e : x = m
    · subst e; simp [hm]
    · rw [if_neg e]; simp [List.getElem?_set_ne (fun h => e h.symm)]
  refine ⟨fun x y => ?_, fun x => ?_⟩
  · rw [g]
    split
    · rename_i e; subst e
      simp only [List.mem_append, List.mem_singleton, h.edge, Prod.mk.injEq, true_and]
    · rename_i e
      simp only [List.mem_append, List.mem_singleton, h.edge, Prod.mk.injEq, e, false_and, or_false]
  · rw [g]; split
    · have := h.deg m; rw [List.length_append, List.length_singleton]; omega
    · have := h.deg x; omega
theorem Hol.bound (h : Hol A K k) (hk : k ≤ 10000) (hK : ∀ p ∈ K, p.2 < N) (x : Nat) : (A.getD x []).length ≤ 10000 ∧ ∀ y ∈ A.getD x [], y < N :=
  ⟨by have := h.deg x; omega, fun y hy => hK _ ((h.edge x y).1 hy)⟩
theorem mem_swap {K : List (Nat × Nat)} {x y : Nat} : (x, y) ∈ K.map Prod.swap ↔ (y, x) ∈ K := by
  constructor
  · intro h
    obtain ⟨p, hp, he⟩ := List.mem_map.1 h
    cases p; cases he; exact hp
  · intro h
    exact List.mem_map.2 ⟨(y, x), h, rfl⟩
theorem cK_sub (cm : Nat → Nat) (e : List (Nat × Nat)) : ∀ k, k ≤ e.length → ∀ p ∈ cK cm e k, p ∈ e
  | 0, _, p, hp => by cases hp
  | k + 1, h, p, hp => by
    have ih := cK_sub cm e k (by omega)
    unfold cK at hp
    split at hp
    · exact ih p hp
    · split at hp
      · exact ih p hp
      · simp only [List.mem_append, List.mem_singleton] at hp
        rcases hp with hp | rfl
        · exact ih p hp
        · have : k < e.length := h
          simp [this]
theorem take_add (hk : k < e.length) (he : e.getD k (0, 0) = (m, r)) : e.take (k + 1) = e.take k ++ [(m, r)] := by
  rw [List.take_add_one, List.getElem?_eq_getElem hk]
  have : e[k] = (m, r) := by simpa [hk] using he
  rw [this]; rfl

/-- The rows kept within components, in both directions. -/
structure CI (cm : Nat → Nat) (e : List (Nat × Nat)) (N : Nat) (Ao Ai : List (List Nat)) (k : Nat) : Prop where
  o : Hol Ao (cK cm e k) k
  i : Hol Ai ((cK cm e k).map Prod.swap) k
  lo : Ao.length = N
  li : Ai.length = N
theorem CI.start (cm : Nat → Nat) (e : List (Nat × Nat)) (N : Nat) : CI cm e N (List.replicate N []) (List.replicate N []) 0 :=
  ⟨Hol.start N, Hol.start N, by simp, by simp⟩
theorem CI.rev (h : CI cm e N Ao Ai k) (x y : Nat) : Nb Ai x y ↔ Nb Ao y x := by
  unfold Nb
  rw [h.i.edge, h.o.edge, mem_swap]
theorem CI.off (h : CI cm e N Ao Ai k) (he : e.getD k (0, 0) = (m, r)) (hc : cm m ≠ cm r) : CI cm e N Ao Ai (k + 1) := by
  have h1 := (cK_off he hc).1
  exact ⟨by rw [h1]; exact h.o.le, by rw [h1]; exact h.i.le, h.lo, h.li⟩
theorem CI.pos (h : CI cm e N Ao Ai k) (he : e.getD k (0, 0) = (m, r)) (hc : cm m = cm r) (hw : Way (Nb Ao) r m) : CI cm e N Ao Ai (k + 1) := by
  have h1 := (cK_pos he hc (h.o.way.1 hw)).1
  exact ⟨by rw [h1]; exact h.o.le, by rw [h1]; exact h.i.le, h.lo, h.li⟩
theorem CI.neg (h : CI cm e N Ao Ai k) (he : e.getD k (0, 0) = (m, r)) (hc : cm m = cm r) (hw : ¬ Way (Nb Ao) r m) (hm : m < N) (hr : r < N) : CI cm e N (Ao.set m (Ao.getD m [] ++ [r])) (Ai.set r (Ai.getD r [] ++ [m])) (k + 1) := by
  have h1 := (cK_neg he hc (fun h' => hw (h.o.way.2 h'))).1
  refine ⟨by rw [h1]; exact h.o.add (by rw [h.lo]; exact hm), ?_, by simp [h.lo], by simp [h.li]⟩
  rw [h1, List.map_append]
  exact h.i.add (by rw [h.li]; exact hr)
theorem CI.bo (h : CI cm e N Ao Ai k) (hk : k ≤ 10000) (hke : k ≤ e.length) (hb : ∀ p ∈ e, p.1 < N ∧ p.2 < N) (x : Nat) : (Ao.getD x []).length ≤ 10000 ∧ ∀ y ∈ Ao.getD x [], y < N :=
  h.o.bound hk (fun p hp => (hb p (cK_sub cm e k hke p hp)).2) x
theorem CI.bi (h : CI cm e N Ao Ai k) (hk : k ≤ 10000) (hke : k ≤ e.length) (hb : ∀ p ∈ e, p.1 < N ∧ p.2 < N) (x : Nat) : (Ai.getD x []).length ≤ 10000 ∧ ∀ y ∈ Ai.getD x [], y < N :=
  h.i.bound hk (fun p hp => by
    obtain ⟨a, b⟩ := p
    exact (hb _ (cK_sub cm e k hke _ (mem_swap.1 hp))).1) x
theorem In.end_ {e : List (Nat × Nat)} (hb : ∀ p ∈ e, p.1 < N ∧ p.2 < N) {u v : Nat} (h : Way (In e) u v) : u = v ∨ v < N := by
  cases h with
  | refl => exact .inl rfl
  | tail _ h => exact .inr (hb _ h).2
theorem CI.fin {A : List (List Nat)} {cm : List Nat} (hA : Hol A e k) (hb : ∀ p ∈ e, p.1 < N ∧ p.2 < N) (hc : ∀ u v, u < N → v < N → Way (Nb A) u v → Way (Nb A) v u → cm.getD u 0 = cm.getD v 0) : cC (fn cm) e e.length = mC e e.length := by
  refine (same (fn cm) e (fun u v h1 h2 => ?_) e.length (Nat.le_refl _)).2
  rcases In.end_ hb h1 with rfl | hv
  · rfl
  rcases In.end_ hb h2 with rfl | hu
  · rfl
  exact hc u v hu hv (hA.way.2 h1) (hA.way.2 h2)
theorem cC_len (cm : Nat → Nat) (e : List (Nat × Nat)) : ∀ k, (cC cm e k).length ≤ k
  | 0 => by simp [cC]
  | k + 1 => by
    have ih := cC_len cm e k
    unfold cC
    split
    · omega
    · split
      · rw [List.length_append, List.length_singleton]; omega
      · omega
end
end Go.Proofs.Ybulkcdco
