/-
  Ways in a graph; which rows close a cycle: with and without the look at the components. No Go.
-/
namespace Go.Proofs.Ybulkcdco

inductive Way (R : Nat → Nat → Prop) : Nat → Nat → Prop
  | refl (x : Nat) : Way R x x
  | tail {x y z : Nat} : Way R x y → R y z → Way R x z

section
variable {R R' : Nat → Nat → Prop}
theorem Way.trans {x y z : Nat} (h : Way R x y) (k : Way R y z) : Way R x z := by
  induction k with
  | refl => exact h
  | tail _ e ih => exact .tail ih e
theorem Way.one {x y : Nat} (h : R x y) : Way R x y := .tail (.refl x) h
theorem Way.head {x y z : Nat} (h : R x y) (k : Way R y z) : Way R x z := (Way.one h).trans k
theorem Way.mono (h : ∀ x y, R x y → R' x y) {x y : Nat} (k : Way R x y) : Way R' x y := by
  induction k with
  | refl => exact .refl _
  | tail _ e ih => exact .tail ih (h _ _ e)
theorem Way.flip {x y : Nat} (k : Way R x y) : Way (fun a b => R b a) y x := by
  induction k with
  | refl => exact .refl _
  | tail _ e ih => exact .head e ih
/-- A closed set is not left. -/
theorem Way.closed {P : Nat → Prop} (h : ∀ x y, P x → R x y → P y) {x y : Nat} (k : Way R x y) (hx : P x) : P y := by
  induction k with
  | refl => exact hx
  | tail _ e ih => exact h _ _ ih e
end

/-- The graph of a list of pairs. -/
def In (K : List (Nat × Nat)) (x y : Nat) : Prop := (x, y) ∈ K

open Classical in
/-- The rows kept, of the first k: the plain model. -/
noncomputable def mK (e : List (Nat × Nat)) : Nat → List (Nat × Nat)
  | 0 => []
  | k + 1 => if Way (In (mK e k)) (e.getD k (0, 0)).2 (e.getD k (0, 0)).1 then mK e k else mK e k ++ [e.getD k (0, 0)]
open Classical in
/-- The rows that close. -/
noncomputable def mC (e : List (Nat × Nat)) : Nat → List Nat
  | 0 => []
  | k + 1 => if Way (In (mK e k)) (e.getD k (0, 0)).2 (e.getD k (0, 0)).1 then mC e k ++ [k] else mC e k
open Classical in
/-- The same, within components. -/
noncomputable def cK (cm : Nat → Nat) (e : List (Nat × Nat)) : Nat → List (Nat × Nat)
  | 0 => []
  | k + 1 => if cm (e.getD k (0, 0)).1 ≠ cm (e.getD k (0, 0)).2 then cK cm e k else if Way (In (cK cm e k)) (e.getD k (0, 0)).2 (e.getD k (0, 0)).1 then cK cm e k else cK cm e k ++ [e.getD k (0, 0)]
open Classical in
noncomputable def cC (cm : Nat → Nat) (e : List (Nat × Nat)) : Nat → List Nat
  | 0 => []
  | k + 1 => if cm (e.getD k (0, 0)).1 ≠ cm (e.getD k (0, 0)).2 then cC cm e k else if Way (In (cK cm e k)) (e.getD k (0, 0)).2 (e.getD k (0, 0)).1 then cC cm e k ++ [k] else cC cm e k

theorem mK_sub (e : List (Nat × Nat)) : ∀ k, k ≤ e.length → ∀ p ∈ mK e k, p ∈ e
  | 0, _, p, hp => by cases hp
  | k + 1, h, p, hp => by
    unfold mK at hp
    split at hp
    · exact mK_sub e k (by omega) p hp
    · simp only [List.mem_append, List.mem_singleton] at hp
      rcases hp with hp | rfl
      · exact mK_sub e k (by omega) p hp
      · have : k < e.length := h
        simp [this]

section
open Classical
variable {e : List (Nat × Nat)} {k m r : Nat} {cm : Nat → Nat} (he : e.getD k (0, 0) = (m, r))
include he
theorem mK_pos (h : Way (In (mK e k)) r m) : mK e (k + 1) = mK e k := by
  show (if Way (In (mK e k)) (e.getD k (0, 0)).2 (e.getD k (0, 0)).1 then mK e k else mK e k ++ [e.getD k (0, 0)]) = _
  rw [he, if_pos h]
theorem mK_neg (h : ¬ Way (In (mK e k)) r m) : mK e (k + 1) = mK e k ++ [(m, r)] := by
  show (if Way (In (mK e k)) (e.getD k (0, 0)).2 (e.getD k (0, 0)).1 then mK e k else mK e k ++ [e.getD k (0, 0)]) = _
  rw [he, if_neg h]
theorem mC_pos (h : Way (In (mK e k)) r m) : mC e (k + 1) = mC e k ++ [k] := by
  show (if Way (In (mK e k)) (e.getD k (0, 0)).2 (e.getD k (0, 0)).1 then mC e k ++ [k] else mC e k) = _
  rw [he, if_pos h]
theorem mC_neg (h : ¬ Way (In (mK e k)) r m) : mC e (k + 1) = mC e k := by
  show (if Way (In (mK e k)) (e.getD k (0, 0)).2 (e.getD k (0, 0)).1 then mC e k ++ [k] else mC e k) = _
  rw [he, if_neg h]
theorem cK_off (h : cm m ≠ cm r) : cK cm e (k + 1) = cK cm e k ∧ cC cm e (k + 1) = cC cm e k := by
  constructor
  · show (if cm (e.getD k (0, 0)).1 ≠ cm (e.getD k (0, 0)).2 then cK cm e k else if Way (In (cK cm e k)) (e.getD k (0, 0)).2 (e.getD k (0, 0)).1 then cK cm e k else cK cm e k ++ [e.getD k (0, 0)]) = _
    rw [he, if_pos h]
  · show (if cm (e.getD k (0, 0)).1 ≠ cm (e.getD k (0, 0)).2 then cC cm e k else if Way (In (cK cm e k)) (e.getD k (0, 0)).2 (e.getD k (0, 0)).1 then cC cm e k ++ [k] else cC cm e k) = _
    rw [he, if_pos h]
theorem cK_pos (h : cm m = cm r) (hw : Way (In (cK cm e k)) r m) : cK cm e (k + 1) = cK cm e k ∧ cC cm e (k + 1) = cC cm e k ++ [k] := by
  constructor
  · show (if cm (e.getD k (0, 0)).1 ≠ cm (e.getD k (0, 0)).2 then cK cm e k else if Way (In (cK cm e k)) (e.getD k (0, 0)).2 (e.getD k (0, 0)).1 then cK cm e k else cK cm e k ++ [e.getD k (0, 0)]) = _
    rw [he, if_neg (by simp [h]), if_pos hw]
  · show (if cm (e.getD k (0, 0)).1 ≠ cm (e.getD k (0, 0)).2 then cC cm e k else if Way (In (cK cm e k)) (e.getD k (0, 0)).2 (e.getD k (0, 0)).1 then cC cm e k ++ [k] else cC cm e k) = _
    rw [he, if_neg (by simp [h]), if_pos hw]
theorem cK_neg (h : cm m = cm r) (hw : ¬ Way (In (cK cm e k)) r m) : cK cm e (k + 1) = cK cm e k ++ [(m, r)] ∧ cC cm e (k + 1) = cC cm e k := by
  constructor
  · show (if cm (e.getD k (0, 0)).1 ≠ cm (e.getD k (0, 0)).2 then cK cm e k else if Way (In (cK cm e k)) (e.getD k (0, 0)).2 (e.getD k (0, 0)).1 then cK cm e k else cK cm e k ++ [e.getD k (0, 0)]) = _
    rw [he, if_neg (by simp [h]), if_neg hw]
  · show (if cm (e.getD k (0, 0)).1 ≠ cm (e.getD k (0, 0)).2 then cC cm e k else if Way (In (cK cm e k)) (e.getD k (0, 0)).2 (e.getD k (0, 0)).1 then cC cm e k ++ [k] else cC cm e k) = _
    rw [he, if_neg (by simp [h]), if_neg hw]
end

theorem same (cm : Nat → Nat) (e : List (Nat × Nat)) (hc : ∀ u v, Way (In e) u v → Way (In e) v u → cm u = cm v) : ∀ k, k ≤ e.length →
    cK cm e k = (mK e k).filter (fun p => decide (cm p.1 = cm p.2)) ∧ cC cm e k = mC e k
  | 0, _ => by simp [cK, mK, cC, mC]
  | k + 1, h => by
    obtain ⟨ih1, ih2⟩ := same cm e hc k (by omega)
    have hk : k < e.length := h
    have hsub := mK_sub e k (by omega)
    obtain ⟨m, r, hmr⟩ : ∃ m r, e.getD k (0, 0) = (m, r) := ⟨_, _, rfl⟩
    have hmem : (m, r) ∈ e := by rw [← hmr]; simp [hk]
    have hE : ∀ x y, In (mK e k) x y → In e x y := fun x y h => hsub _ h
    -- a way back over the kept rows stays in one component
    have key : Way (In (mK e k)) r m → Way (In (cK cm e k)) r m := by
      intro hw
      have gen : ∀ y, Way (In (mK e k)) r y → Way (In e) y m → Way (In (cK cm e k)) r y := by
        intro y hy
        induction hy with
        | refl => intro _; exact .refl _
        | tail hxy hyz ih =>
          rename_i y' z
          intro hz
          have hyz' := hE _ _ hyz
          have h1 := ih (.head hyz' hz)
          refine .tail h1 ?_
          show (y', z) ∈ cK cm e k
          rw [ih1, List.mem_filter]
          refine ⟨hyz, ?_⟩
          have hry : Way (In e) r y' := hxy.mono hE
          have : cm y' = cm z := hc y' z (.one hyz') ((hz.trans (.one hmem)).trans hry)
          simp [this]
      exact gen m hw (.refl m)
    have back : Way (In (cK cm e k)) r m → Way (In (mK e k)) r m := fun hw => hw.mono (fun x y h => by
      have h : (x, y) ∈ cK cm e k := h
      rw [ih1, List.mem_filter] at h; exact h.1)
    by_cases hw : Way (In (mK e k)) r m
    · have hcm : cm m = cm r := hc m r (.one hmem) (hw.mono hE)
      have h1 := cK_pos hmr hcm (key hw)
      rw [h1.1, h1.2, mK_pos hmr hw, mC_pos hmr hw, ih2]
      exact ⟨ih1, rfl⟩
    · have hw' : ¬ Way (In (cK cm e k)) r m := fun h => hw (back h)
      rw [mK_neg hmr hw, mC_neg hmr hw, List.filter_append]
      by_cases hcm : cm m = cm r
      · have h1 := cK_neg hmr hcm hw'
        rw [h1.1, h1.2, ih1]
        exact ⟨by simp [hcm], ih2⟩
      · have h1 := cK_off hmr hcm
        rw [h1.1, h1.2, ih1]
        exact ⟨by simp [hcm], ih2⟩
end Go.Proofs.Ybulkcdco
