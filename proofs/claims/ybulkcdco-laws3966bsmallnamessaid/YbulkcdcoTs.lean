import Derived.Test.YbulkcdcoMu
import Derived.Test.YbulkcdcoSr
namespace Go.Proofs.Ybulkcdco

def fn (l : List Nat) : Nat → Nat := fun v => l.getD v 0
theorem fn_set (l : List Nat) (i x : Nat) (hi : i < l.length) : fn (l.set i x) = upd (fn l) i x := by
  funext v; unfold fn upd; exact getD_set l i x v hi
def adjF (A : List (List Nat)) : Nat → List Nat := fun v => A.getD v []
theorem upd_comm {α : Type} (f : Nat → α) {i j : Nat} (x y : α) (h : i ≠ j) : upd (upd f i x) j y = upd (upd f j y) i x := by
  funext v; unfold upd; split <;> split <;> simp_all
theorem unseen0 (l : List Nat) : unseen 0 l ≤ l.length := unseen_le 0 l

/-- The visit's state. -/
structure TS (A : List (List Nat)) (N : Nat) (ix lw cm : List Nat) (os : List Bool) (ne : Nat → Nat) (st pn : List Nat) (vis f : Nat) : Prop where
  t : T (adjF A) N (fn ix) (fn lw) (fn cm) ne st pn vis
  lx : ix.length = N
  ll : lw.length = N
  lc : cm.length = N
  lo : os.length = N
  on : ∀ v, os.getD v false = true ↔ v ∈ st
  nel : ∀ v ∈ pn, ne v ≤ (A.getD v []).length
  cnt : vis = unseen 0 ix
  fc : f + st.length ≤ vis

theorem unseen0_set : ∀ (l : List Nat) (i z : Nat), i < l.length → l.getD i 0 = 0 → z ≠ 0 → unseen 0 (l.set i z) = unseen 0 l + 1
  | [], i, z, h, _, _ => by simp at h
  | a :: l, 0, z, _, h, hz => by
    have h' : a = 0 := by simpa using h
    subst h'
    simp [unseen, hz]
  | a :: l, i + 1, z, h, hn, hz => by
    have ih := unseen0_set l i z (by simpa using h) (by simpa using hn) hz
    unfold unseen at ih ⊢
    simp only [List.set_cons_succ, List.filter_cons]
    split
    · simp only [List.length_cons]; omega
    · exact ih
section
variable {A : List (List Nat)} {N : Nat} {ix lw cm : List Nat} {os : List Bool} {ne : Nat → Nat} {st pn : List Nat} {vis f : Nat}
theorem TS.visN (h : TS A N ix lw cm os ne st pn vis f) : vis ≤ N := by rw [h.cnt, ← h.lx]; exact unseen_le 0 ix
theorem os_set (os : List Bool) (i v : Nat) (b : Bool) (hi : i < os.length) : (os.set i b).getD v false = if v = i then b else os.getD v false := by
  by_cases h : v = i
  · subst h; simp [hi]
  · rw [if_neg h]; simp [List.getElem?_set_ne (fun e => h e.symm)]
theorem TS.enter (h : TS A N ix lw cm os ne st pn vis f) {w : Nat} (hw : w < N) (h0 : ix.getD w 0 = 0) :
    TS A N (ix.set w (vis + 1)) (lw.set w (vis + 1)) cm (os.set w true) (upd ne w 0) (st ++ [w]) (pn ++ [w]) (vis + 1) f := by
  have hT := h.t.enter hw h0
  rw [← fn_set ix w _ (by rw [h.lx]; exact hw), ← fn_set lw w _ (by rw [h.ll]; exact hw)] at hT
  have hns : w ∉ st := fun hm => h.t.pos w hm h0
  have hnp : w ∉ pn := fun hm => hns (h.t.sub.subset hm)
  refine ⟨hT, by simp [h.lx], by simp [h.ll], h.lc, by simp [h.lo], fun v => ?_, fun v hv => ?_, ?_, ?_⟩
  · rw [os_set os w v true (by rw [h.lo]; exact hw)]
    simp only [List.mem_append, List.mem_singleton]
    split
    · simp_all
    · rename_i e; rw [h.on v]; simp [e]
  · simp only [List.mem_append, List.mem_singleton] at hv
    rcases hv with hv | rfl
    · rw [upd_ne ne 0 (fun e : v = w => hnp (e ▸ hv))]; exact h.nel v hv
    · rw [upd_same]; omega
  · rw [unseen0_set ix w _ (by rw [h.lx]; exact hw) h0 (by omega), ← h.cnt]
  · have := h.fc; simp; omega
theorem TS.lower (h : TS A N ix lw cm os ne st pn vis f) {v z : Nat} (hv : v ∈ pn) (hvN : v < N) (hz : ∃ s ∈ st, ix.getD s 0 ≤ z) : TS A N ix (lw.set v (min (lw.getD v 0) z)) cm os ne st pn vis f := by
  have hT := h.t.lower hv hz
  have e : upd (fn lw) v (min (fn lw v) z) = fn (lw.set v (min (lw.getD v 0) z)) := (fn_set lw v _ (by rw [h.ll]; exact hvN)).symm
  rw [e] at hT
  exact ⟨hT, h.lx, by simp [h.ll], h.lc, h.lo, h.on, h.nel, h.cnt, h.fc⟩
theorem TS.next (h : TS A N ix lw cm os ne st pn vis f) {v y : Nat} (hv : v ∈ pn) (hy : (A.getD v [])[ne v]? = some y) (h1 : ix.getD y 0 ≠ 0) (h2 : y ∈ st → lw.getD v 0 ≤ ix.getD y 0 ∨ ix.getD v 0 < ix.getD y 0) : TS A N ix lw cm os (upd ne v (ne v + 1)) st pn vis f := by
  refine ⟨h.t.next hv hy h1 h2, h.lx, h.ll, h.lc, h.lo, h.on, fun u hu => ?_, h.cnt, h.fc⟩
  by_cases e : u = v
  · subst e; rw [upd_same]
    have := (List.getElem?_eq_some_iff.1 hy).1
    omega
  · rw [upd_ne ne _ e]; exact h.nel u hu
theorem TS.pop {p0 : List Nat} {u v : Nat} (h : TS A N ix lw cm os ne st (p0 ++ [u] ++ [v]) vis f) (hd : (A.getD v []).length ≤ ne v) (hl : lw.getD u 0 ≤ lw.getD v 0) : TS A N ix lw cm os ne st (p0 ++ [u]) vis f :=
  ⟨h.t.pop hd hl, h.lx, h.ll, h.lc, h.lo, h.on, fun x hx => h.nel x (by simp only [List.mem_append] at hx ⊢; exact .inl hx), h.cnt, h.fc⟩
theorem TS.first {v : Nat} (h : TS A N ix lw cm os ne st [v] vis f) : lw.getD v 0 = ix.getD v 0 := h.t.first
theorem TS.root {p0 s0 s1 : List Nat} {v : Nat} (h : TS A N ix lw cm os ne (s0 ++ v :: s1) (p0 ++ [v]) vis f) (hd : (A.getD v []).length ≤ ne v) (hl : lw.getD v 0 = ix.getD v 0) {cm' : List Nat} {os' : List Bool} (lc' : cm'.length = N) (lo' : os'.length = N) (hc : ∀ x ∈ v :: s1, cm'.getD x 0 = f) (hc' : ∀ x, x ∉ v :: s1 → cm'.getD x 0 = cm.getD x 0) (ho : ∀ x, os'.getD x false = true ↔ x ∈ s0) : TS A N ix lw cm' os' ne s0 p0 vis (f + 1) := by
  refine ⟨h.t.root hd hl (cm' := fn cm') (f := f) hc hc', h.lx, h.ll, lc', lo', ho, fun x hx => h.nel x (by simp [hx]), h.cnt, ?_⟩
  have := h.fc
  simp only [List.length_append, List.length_cons] at this; omega
theorem TS.start (A : List (List Nat)) (N : Nat) (ne : Nat → Nat) : TS A N (List.replicate N 0) (List.replicate N 0) (List.replicate N 0) (List.replicate N false) ne [] [] 0 0 := by
  have e : fn (List.replicate N 0) = fun _ => 0 := by
    funext v; unfold fn; simp only [List.getD_eq_getElem?_getD, List.getElem?_replicate]; split <;> rfl
  have hT : T (adjF A) N (fn (List.replicate N 0)) (fn (List.replicate N 0)) (fn (List.replicate N 0)) ne [] [] 0 := by
    have := T.start (adj := adjF A) (N := N) (lw := fn (List.replicate N 0)) (cm := fn (List.replicate N 0)) (ne := ne)
    rw [← e] at this; exact this
  refine ⟨hT, by simp, by simp, by simp, by simp, fun v => ?_, (fun v h => by cases h), ?_, by simp⟩
  · have : (List.replicate N false).getD v false = false := by simp only [List.getD_eq_getElem?_getD, List.getElem?_replicate]; split <;> rfl
    rw [this]; simp
  · unfold unseen; simp
/-- The end: what mutual reach gives. -/
theorem TS.done (h : TS A N ix lw cm os ne [] [] vis f) (hall : ∀ v, v < N → ix.getD v 0 ≠ 0) {u v : Nat} (hu : u < N) (hv : v < N) (h1 : Way (Nb A) u v) (h2 : Way (Nb A) v u) : cm.getD u 0 = cm.getD v 0 :=
  h.t.cmp u v (hall u hu) (by simp) (hall v hv) (by simp) h1 h2
end
end Go.Proofs.Ybulkcdco
