import Derived.Test.YbulkcdkcAft
import Derived.Deep.RegionLawGrows
namespace Go.Proofs.Ybulkcdkc
open Go.RowKit

theorem own_typeB {w : World} {e : TypeId} {z : Nat} {v : Value} {n : Nat} {xs : List Value} (h : w.ownsRow 0 e z v n xs) {g : Nat} (hg : v.ownBlock = some g) : ∃ cs fr, w.heap[g]? = some (.cells cs e fr) := by
  rcases h.2 with ⟨rfl, _⟩ | ⟨g', cap, cur, rfl, hb, hg', _⟩
  · simp [Value.ownBlock] at hg
  · simp [Value.ownBlock] at hg; subst hg; exact ⟨_, _, hg'⟩
/-- A row stands while a block of another type turns. -/
theorem own_off {w w' : World} {e t : TypeId} {z : Nat} {v : Value} {n bc : Nat} {xs : List Value} {cs : Array Value} {fr : Nat × Nat} (h : w.ownsRow 0 e z v n xs) (hc : w.heap[bc]? = some (.cells cs t fr)) (hne : e ≠ t) (k : Keeps (fun b => b = bc) w w') : w'.ownsRow 0 e z v n xs :=
  k.own h (fun b hb e' => by
    subst e'
    obtain ⟨cs', fr', h'⟩ := own_typeB h hb
    rw [hc] at h'
    cases h'
    exact hne rfl)

/-- Views, as cells. -/
def vcells (ps : List (Int × Value)) : List Value := (ps.map fun p => [Value.int .u64 p.1, p.2]).flatten
theorem vcells_cons (p : Int × Value) (ps : List (Int × Value)) : vcells (p :: ps) = .int .u64 p.1 :: p.2 :: vcells ps := by unfold vcells; simp
theorem vcells_len : ∀ ps, (vcells ps).length = ps.length * 2
  | [] => rfl
  | p :: ps => by rw [vcells_cons]; simp only [List.length_cons, vcells_len ps]; omega
theorem vcells_append (ps qs : List (Int × Value)) : vcells (ps ++ qs) = vcells ps ++ vcells qs := by unfold vcells; simp
theorem vcells_get : ∀ (ps : List (Int × Value)) (i : Nat), i < ps.length → (vcells ps)[i * 2]? = some (.int .u64 (ps.getD i (0, undef)).1) ∧ (vcells ps)[i * 2 + 1]? = some (ps.getD i (0, undef)).2
  | [], i, h => by simp at h
  | p :: ps, 0, _ => by rw [vcells_cons]; simp
  | p :: ps, i + 1, h => by
    have := vcells_get ps i (by simpa using h)
    rw [vcells_cons, show (i + 1) * 2 = i * 2 + 1 + 1 by omega]
    simpa using this
/-- A slice of views that reads as lists of names. -/
structure VRow (w : World) (v : Value) (ps : List (Int × Value)) (L : List (List ByteArray)) : Prop where
  len : ps.length = L.length
  row : w.ownsRow 0 31 2 v ps.length (vcells ps)
  mem : ∀ i, i < ps.length → Rd w (ps.getD i (0, undef)).2 (L.getD i [])
theorem VRow.keep {w w' : World} {v : Value} {ps : List (Int × Value)} {L : List (List ByteArray)} (h : VRow w v ps L) (k : Keeps (fun _ => False) w w') : VRow w' v ps L :=
  ⟨h.len, k.own h.row (fun _ _ h => h), fun i hi => (h.mem i hi).keep k⟩
theorem VRow.off {w w' : World} {v : Value} {ps : List (Int × Value)} {L : List (List ByteArray)} {bc : Nat} {cs : Array Value} {fr : Nat × Nat} (h : VRow w v ps L) (hc : w.heap[bc]? = some (.cells cs 34 fr)) (k : Keeps (fun b => b = bc) w w') : VRow w' v ps L :=
  ⟨h.len, own_off h.row hc (by decide) k, fun i hi => own_off (h.mem i hi) hc (by decide) k⟩
theorem VRow.nil (w : World) : VRow w (.slice none 0 0) [] [] := ⟨rfl, World.ownsRow_nil _ _ _ _, fun i hi => by simp at hi⟩
theorem VRow.push {w : World} {v v' : Value} {ps : List (Int × Value)} {L : List (List ByteArray)} {id : Int} {vm : Value} {ss : List ByteArray} (h : VRow w v ps L) (hs : Rd w vm ss) (ho : w.ownsRow 0 31 2 v' (ps.length + 1) (vcells ps ++ [.int .u64 id, vm])) : VRow w v' (ps ++ [(id, vm)]) (L ++ [ss]) := by
  refine ⟨by simp [h.len], ?_, fun i hi => ?_⟩
  · rw [vcells_append, show (ps ++ [(id, vm)]).length = ps.length + 1 by simp]; exact ho
  · by_cases hlt : i < ps.length
    · have := h.mem i hlt
      rw [List.getD_eq_getElem?_getD, List.getElem?_append_left hlt, ← List.getD_eq_getElem?_getD, List.getD_eq_getElem?_getD (l := L ++ [ss]), List.getElem?_append_left (by rw [← h.len]; exact hlt), ← List.getD_eq_getElem?_getD]
      exact this
    · have e : i = ps.length := by simp at hi; omega
      subst e
      rw [List.getD_eq_getElem?_getD, List.getElem?_append_right (Nat.le_refl _), List.getD_eq_getElem?_getD (l := L ++ [ss]), h.len, List.getElem?_append_right (Nat.le_refl _)]
      simpa using hs

/-- A call of a Go function, as one step of a region that draws. -/
theorem step_call {P : Program} {ops : Array Oper} {o : Oper} {a : Act} {w : World} {K : Act → World → Prop} {Q : Exit → Act → World → Prop} {E : Prop} (f : FuncId) (args : Array Value) (hgd : o.guard = none) (hex : (execOp a.eval o).run P w = .ok (.enter f args) w) {Post : Ending → World → Prop} (hc : Calls P f args w Post)
    (h : ∀ r w', Post r w' → ∃ v, r = .returned v ∧ K (a.put o.dst v) w') : if Region.wanted o (yielded ops a.tmps) = true then Oper.wp P o a w K Q else E := by
  have hw : Region.wanted o (yielded ops a.tmps) = true := by simp [Region.wanted, hgd]
  rw [if_pos hw]
  unfold Oper.wp
  rw [hex, Oper.upon_enter]
  refine hc.mono ?_
  intro r w' hp
  obtain ⟨v, rfl, hk⟩ := h r w' hp
  exact hk

/-- The views left behind a decision. -/
def leftL (k : Nat) (ss : List ByteArray) (L : List (List ByteArray)) : List (List ByteArray) := if k = 5 then [] else if k = 2 ∨ k = 3 then L ++ [ss] else L
theorem Yba.info31 : (Yba.prog.info? 31).map (fun i => (i.zero, i.size, i.bytes)) = some (some (.agg #[.int .u64 0, .slice none 0 0]), 2, 32) := by kernel_rfl
end Go.Proofs.Ybulkcdkc
