import Derived.Test.YbulkcdcoPath
/-
  The depth-first visit that finds components: what it keeps. No Go.
-/
namespace Go.Proofs.Ybulkcdco

def upd {α : Type} (f : Nat → α) (i : Nat) (x : α) : Nat → α := fun v => if v = i then x else f v
theorem upd_same {α : Type} (f : Nat → α) (i : Nat) (x : α) : upd f i x i = x := by simp [upd]
theorem upd_ne {α : Type} (f : Nat → α) {i v : Nat} (x : α) (h : v ≠ i) : upd f i x v = f v := by simp [upd, h]

structure T (adj : Nat → List Nat) (N : Nat) (ix lw cm ne : Nat → Nat) (st pn : List Nat) (vis : Nat) : Prop where
  lt : ∀ v ∈ st, v < N
  srt : st.Pairwise (fun a b => ix a < ix b)
  pos : ∀ v ∈ st, ix v ≠ 0
  top : ∀ v, ix v ≤ vis
  sub : pn.Sublist st
  ex : ∀ x ∈ st, ∀ (j y : Nat), j < ne x → (adj x)[j]? = some y → ix y ≠ 0 ∧ (y ∈ st → lw x ≤ ix y ∨ ix x < ix y)
  fin : ∀ x ∈ st, x ∉ pn → (adj x).length ≤ ne x
  cl : ∀ x, ix x ≠ 0 → x ∉ st → ∀ y ∈ adj x, ix y ≠ 0 ∧ y ∉ st
  low : ∀ x ∈ st, x ∉ pn → ∃ p ∈ pn, ix p < ix x ∧ lw p ≤ lw x ∧ ∀ q ∈ pn, ix q < ix x → ix q ≤ ix p
  cmp : ∀ u w, ix u ≠ 0 → u ∉ st → ix w ≠ 0 → w ∉ st → Way (fun a b => b ∈ adj a) u w → Way (fun a b => b ∈ adj a) w u → cm u = cm w
  lwb : ∀ x ∈ st, lw x ≤ ix x ∧ ∃ s ∈ st, ix s ≤ lw x

section
variable {adj : Nat → List Nat} {N : Nat} {ix lw cm ne : Nat → Nat} {st pn : List Nat} {vis : Nat}

theorem T.start : T adj N (fun _ => 0) lw cm ne [] [] 0 :=
  ⟨(fun v h => by cases h), .nil, (fun v h => by cases h), (fun _ => Nat.le_refl _), .slnil, (fun v h => by cases h), (fun v h => by cases h), (fun x h => absurd rfl h), (fun v h => by cases h), (fun u _ h => absurd rfl h), (fun v h => by cases h)⟩

theorem T.inj (h : T adj N ix lw cm ne st pn vis) {a b : Nat} (ha : a ∈ st) (hb : b ∈ st) (e : ix a = ix b) : a = b := by
  have hs := h.srt
  clear h
  induction st with
  | nil => cases ha
  | cons c st ih =>
    have hc := List.pairwise_cons.1 hs
    rcases List.mem_cons.1 ha with rfl | ha'
    · rcases List.mem_cons.1 hb with rfl | hb'
      · rfl
      · have := hc.1 b hb'; omega
    · rcases List.mem_cons.1 hb with rfl | hb'
      · have := hc.1 a ha'; omega
      · exact ih ha' hb' hc.2

/-- A new node is entered. -/
theorem T.enter (h : T adj N ix lw cm ne st pn vis) {w : Nat} (hw : w < N) (h0 : ix w = 0) :
    T adj N (upd ix w (vis + 1)) (upd lw w (vis + 1)) cm (upd ne w 0) (st ++ [w]) (pn ++ [w]) (vis + 1) := by
  have hns : w ∉ st := fun hm => h.pos w hm h0
  have hx : ∀ x ∈ st, x ≠ w := fun x hx e => hns (e ▸ hx)
  have ixs : ∀ x ∈ st, upd ix w (vis + 1) x = ix x := fun x hm => upd_ne _ _ (hx x hm)
  have lws : ∀ x ∈ st, upd lw w (vis + 1) x = lw x := fun x hm => upd_ne _ _ (hx x hm)
  have nz : ∀ x, ix x ≠ 0 → x ≠ w := fun x hn e => hn (e ▸ h0)
  have ix0 : ∀ x, ix x ≠ 0 → upd ix w (vis + 1) x = ix x := fun x hn => upd_ne _ _ (nz x hn)
  refine ⟨?_, ?_, ?_, ?_, ?_, ?_, ?_, ?_, ?_, ?_, ?_⟩
  · intro v hv
    simp only [List.mem_append, List.mem_singleton] at hv
    rcases hv with hv | rfl
    · exact h.lt v hv
    · exact hw
  · refine List.pairwise_append.2 ⟨h.srt.imp_of_mem (fun ha hb hab => by rw [ixs _ ha, ixs _ hb]; exact hab), by simp, fun a ha b hb => ?_⟩
    simp only [List.mem_singleton] at hb
    subst hb
    rw [ixs a ha, upd_same]
    have := h.top a; omega
  · intro v hv
    simp only [List.mem_append, List.mem_singleton] at hv
    rcases hv with hv | rfl
    · rw [ixs v hv]; exact h.pos v hv
    · rw [upd_same]; omega
  · intro v
    by_cases e : v = w
    · subst e; rw [upd_same]; omega
    · rw [upd_ne _ _ e]; have := h.top v; omega
  · exact List.Sublist.append h.sub (List.Sublist.refl _)
  · intro x hxm j y hj hy
    simp only [List.mem_append, List.mem_singleton] at hxm
    rcases hxm with hxm | rfl
    · rw [upd_ne _ _ (hx x hxm)] at hj
      have h1 := h.ex x hxm j y hj hy
      rw [ix0 y h1.1, ixs x hxm, lws x hxm]
      refine ⟨h1.1, fun hy' => ?_⟩
      simp only [List.mem_append, List.mem_singleton] at hy'
      rcases hy' with hy' | rfl
      · exact h1.2 hy'
      · exact absurd h0 h1.1
    · rw [upd_same] at hj; omega
  · intro x hxm hxn
    simp only [List.mem_append, List.mem_singleton, not_or] at hxm hxn
    rcases hxm with hxm | rfl
    · rw [upd_ne _ _ (hx x hxm)]; exact h.fin x hxm hxn.1
    · exact absurd rfl hxn.2
  · intro x hx0 hxn y hy
    simp only [List.mem_append, List.mem_singleton, not_or] at hxn
    rw [upd_ne _ _ hxn.2] at hx0
    have h1 := h.cl x hx0 hxn.1 y hy
    rw [ix0 y h1.1]
    refine ⟨h1.1, ?_⟩
    simp only [List.mem_append, List.mem_singleton, not_or]
    exact ⟨h1.2, nz y h1.1⟩
  · intro x hxm hxn
    simp only [List.mem_append, List.mem_singleton, not_or] at hxm hxn
    rcases hxm with hxm | rfl
    · obtain ⟨p, hp, h1, h2, h3⟩ := h.low x hxm hxn.1
      have hps := h.sub.subset hp
      refine ⟨p, by simp [hp], ?_, ?_, ?_⟩
      · rw [ixs p hps, ixs x hxm]; exact h1
      · rw [lws p hps, lws x hxm]; exact h2
      · intro q hq hqx
        simp only [List.mem_append, List.mem_singleton] at hq
        rcases hq with hq | rfl
        · have hqs := h.sub.subset hq
          rw [ixs q hqs, ixs x hxm] at hqx
          rw [ixs q hqs, ixs p hps]; exact h3 q hq hqx
        · rw [upd_same, ixs x hxm] at hqx
          have := h.top x; omega
    · exact absurd rfl hxn.2
  · intro u v hu hun hv hvn h1 h2
    simp only [List.mem_append, List.mem_singleton, not_or] at hun hvn
    rw [upd_ne _ _ hun.2] at hu
    rw [upd_ne _ _ hvn.2] at hv
    exact h.cmp u v hu hun.1 hv hvn.1 h1 h2
  · intro x hxm
    simp only [List.mem_append, List.mem_singleton] at hxm
    rcases hxm with hxm | rfl
    · obtain ⟨h1, s, hs, h2⟩ := h.lwb x hxm
      rw [ixs x hxm, lws x hxm]
      exact ⟨h1, s, by simp [hs], by rw [ixs s hs]; exact h2⟩
    · rw [upd_same, upd_same]
      exact ⟨Nat.le_refl _, x, by simp, by rw [upd_same]; exact Nat.le_refl _⟩

/-- A node of the path is lowered. -/
theorem T.lower (h : T adj N ix lw cm ne st pn vis) {v z : Nat} (hv : v ∈ pn) (hz : ∃ s ∈ st, ix s ≤ z) : T adj N ix (upd lw v (min (lw v) z)) cm ne st pn vis := by
  have hvs := h.sub.subset hv
  have le : ∀ x, upd lw v (min (lw v) z) x ≤ lw x := fun x => by
    by_cases e : x = v
    · subst e; rw [upd_same]; omega
    · rw [upd_ne _ _ e]; exact Nat.le_refl _
  refine ⟨h.lt, h.srt, h.pos, h.top, h.sub, fun x hx j y hj hy => ?_, h.fin, h.cl, fun x hx hxn => ?_, h.cmp, fun x hx => ?_⟩
  · obtain ⟨h1, h2⟩ := h.ex x hx j y hj hy
    refine ⟨h1, fun hys => ?_⟩
    rcases h2 hys with h3 | h3
    · exact .inl (Nat.le_trans (le x) h3)
    · exact .inr h3
  · obtain ⟨p, hp, h1, h2, h3⟩ := h.low x hx hxn
    refine ⟨p, hp, h1, ?_, h3⟩
    rw [upd_ne _ _ (show x ≠ v from fun e => hxn (by rw [e]; exact hv))]
    exact Nat.le_trans (le p) h2
  · obtain ⟨h1, s, hs, h2⟩ := h.lwb x hx
    refine ⟨Nat.le_trans (le x) h1, ?_⟩
    by_cases e : x = v
    · subst e
      rw [upd_same]
      obtain ⟨s', hs', h3⟩ := hz
      by_cases hle : lw x ≤ z
      · exact ⟨s, hs, by omega⟩
      · exact ⟨s', hs', by omega⟩
    · rw [upd_ne _ _ e]; exact ⟨s, hs, h2⟩

/-- One more edge of v is followed. -/
theorem T.next (h : T adj N ix lw cm ne st pn vis) {v y : Nat} (hv : v ∈ pn) (hy : (adj v)[ne v]? = some y) (h1 : ix y ≠ 0) (h2 : y ∈ st → lw v ≤ ix y ∨ ix v < ix y) : T adj N ix lw cm (upd ne v (ne v + 1)) st pn vis := by
  refine ⟨h.lt, h.srt, h.pos, h.top, h.sub, fun x hx j y' hj hy' => ?_, fun x hx hxn => ?_, h.cl, h.low, h.cmp, h.lwb⟩
  · by_cases e : x = v
    · subst e
      rw [upd_same] at hj
      by_cases hjn : j < ne x
      · exact h.ex x hx j y' hjn hy'
      · have : j = ne x := by omega
        subst this
        rw [hy] at hy'; cases hy'
        exact ⟨h1, h2⟩
    · rw [upd_ne _ _ e] at hj; exact h.ex x hx j y' hj hy'
  · rw [upd_ne _ _ (show x ≠ v from fun e => hxn (by rw [e]; exact hv))]; exact h.fin x hx hxn

theorem T.path_lt {v : Nat} (h : T adj N ix lw cm ne st (pn ++ [v]) vis) : ∀ q ∈ pn, ix q < ix v := by
  have := (h.srt.sublist h.sub)
  have := List.pairwise_append.1 this
  intro q hq
  exact this.2.2 q hq v (by simp)

/-- v is done, and no root: its parent u counts for it. -/
theorem T.pop {u v : Nat} (h : T adj N ix lw cm ne st (pn ++ [u] ++ [v]) vis) (hd : (adj v).length ≤ ne v) (hl : lw u ≤ lw v) : T adj N ix lw cm ne st (pn ++ [u]) vis := by
  have hlt := h.path_lt
  have huv := hlt u (by simp)
  have hsub : (pn ++ [u]).Sublist st := (List.sublist_append_left _ _).trans h.sub
  have hvs : v ∈ st := h.sub.subset (by simp)
  have hus : ∀ q ∈ pn, ix q < ix u := by
    have h1 := h.srt.sublist hsub
    exact fun q hq => (List.pairwise_append.1 h1).2.2 q hq u (by simp)
  refine ⟨h.lt, h.srt, h.pos, h.top, hsub, h.ex, fun x hx hxn => ?_, h.cl, fun x hx hxn => ?_, h.cmp, h.lwb⟩
  · by_cases e : x = v
    · subst e; exact hd
    · exact h.fin x hx (by simp only [List.mem_append, List.mem_singleton] at hxn ⊢; simp [hxn, e])
  · by_cases e : x = v
    · subst e
      refine ⟨u, by simp, huv, hl, fun q hq _ => ?_⟩
      simp only [List.mem_append, List.mem_singleton] at hq
      rcases hq with hq | rfl
      · have := hus q hq; omega
      · exact Nat.le_refl _
    · obtain ⟨p, hp, h1, h2, h3⟩ := h.low x hx (by simp only [List.mem_append, List.mem_singleton] at hxn ⊢; simp [hxn, e])
      simp only [List.mem_append, List.mem_singleton] at hp
      by_cases ep : p = v
      · subst ep
        refine ⟨u, by simp, by omega, by omega, fun q hq _ => ?_⟩
        simp only [List.mem_append, List.mem_singleton] at hq
        rcases hq with hq | rfl
        · have := hus q hq; omega
        · exact Nat.le_refl _
      · refine ⟨p, ?_, h1, h2, fun q hq hqx => h3 q (by simp only [List.mem_append, List.mem_singleton] at hq ⊢; exact .inl hq) hqx⟩
        simp only [List.mem_append, List.mem_singleton]
        rcases hp with hp | hp
        · exact hp
        · exact absurd hp ep

/-- The first of the path is a root when it is done. -/
theorem T.first {v : Nat} (h : T adj N ix lw cm ne st [v] vis) : lw v = ix v := by
  have hvs : v ∈ st := h.sub.subset (by simp)
  obtain ⟨h1, s, hs, h2⟩ := h.lwb v hvs
  have : ix v ≤ ix s := by
    by_cases e : s = v
    · subst e; exact Nat.le_refl _
    · obtain ⟨p, hp, h3, _⟩ := h.low s hs (by simp [e])
      simp at hp; subst hp; omega
  omega

/-- v is done, and a root: the nodes from it on are a component. -/
theorem T.root {v : Nat} {s0 s1 : List Nat} (h : T adj N ix lw cm ne (s0 ++ v :: s1) (pn ++ [v]) vis) (hd : (adj v).length ≤ ne v) (hl : lw v = ix v) {cm' : Nat → Nat} {f : Nat} (hc : ∀ x ∈ v :: s1, cm' x = f) (hc' : ∀ x, x ∉ v :: s1 → cm' x = cm x) : T adj N ix lw cm' ne s0 pn vis := by
  have hlt := h.path_lt
  have hs := List.pairwise_append.1 h.srt
  have h01 : ∀ x ∈ s0, ix x < ix v := fun x hx => hs.2.2 x hx v (by simp)
  have h1v : ∀ x ∈ s1, ix v < ix x := (List.pairwise_cons.1 hs.2.1).1
  have hge : ∀ x ∈ v :: s1, ix v ≤ ix x := fun x hx => by
    rcases List.mem_cons.1 hx with rfl | hx
    · exact Nat.le_refl _
    · exact Nat.le_of_lt (h1v x hx)
  have hmem : ∀ x, x ∈ s0 ++ v :: s1 ↔ x ∈ s0 ∨ x ∈ v :: s1 := fun x => List.mem_append
  have hvs : v ∈ s0 ++ v :: s1 := by simp
  have hpn0 : ∀ x ∈ v :: s1, x ∉ pn := fun x hx hp => by have := hlt x hp; have := hge x hx; omega
  -- edges from the component stay in it or lead to what is done
  have out : ∀ x ∈ v :: s1, ∀ y ∈ adj x, ix y ≠ 0 ∧ y ∉ s0 := by
    intro x hx y hy
    obtain ⟨j, hj, rfl⟩ := List.getElem_of_mem hy
    have hxs : x ∈ s0 ++ v :: s1 := (hmem x).2 (.inr hx)
    have hne : (adj x).length ≤ ne x := by
      by_cases e : x = v
      · subst e; exact hd
      · exact h.fin x hxs (by simp [e, hpn0 x hx])
    obtain ⟨g1, g2⟩ := h.ex x hxs j _ (by omega) (List.getElem?_eq_getElem hj)
    refine ⟨g1, fun hy0 => ?_⟩
    have hylt := h01 _ hy0
    have hxge := hge x hx
    rcases g2 ((hmem _).2 (.inl hy0)) with g | g
    · by_cases e : x = v
      · subst e; omega
      · obtain ⟨p, hp, k1, k2, k3⟩ := h.low x hxs (by simp [e, hpn0 x hx])
        have hvx : ix v < ix x := by
          rcases List.mem_cons.1 hx with e' | hx'
          · exact absurd e' e
          · exact h1v x hx'
        have := k3 v (by simp) hvx
        have hpv : p = v := by
          simp only [List.mem_append, List.mem_singleton] at hp
          rcases hp with hp | hp
          · have := hlt p hp; omega
          · exact hp
        subst hpv; omega
    · omega
  have cl' : ∀ x, ix x ≠ 0 → x ∉ s0 → ∀ y ∈ adj x, ix y ≠ 0 ∧ y ∉ s0 := by
    intro x hx0 hxn y hy
    by_cases hx : x ∈ v :: s1
    · exact out x hx y hy
    · have := h.cl x hx0 (fun hm => ((hmem x).1 hm).elim hxn hx) y hy
      exact ⟨this.1, fun hm => this.2 ((hmem y).2 (.inl hm))⟩
  refine ⟨fun x hx => h.lt x ((hmem x).2 (.inl hx)), hs.1, fun x hx => h.pos x ((hmem x).2 (.inl hx)), h.top, ?_, fun x hx j y hj hy => ?_, fun x hx hxn => ?_, cl', fun x hx hxn => ?_, ?_, fun x hx => ?_⟩
  · have hf := List.Sublist.filter (fun x => decide (ix x < ix v)) ((List.sublist_append_left pn [v]).trans h.sub)
    have e1 : pn.filter (fun x => decide (ix x < ix v)) = pn := List.filter_eq_self.2 (fun x hx => by simp [hlt x hx])
    have e2 : (s0 ++ v :: s1).filter (fun x => decide (ix x < ix v)) = s0 := by
      rw [List.filter_append, List.filter_eq_self.2 (fun x hx => by simp [h01 x hx]), List.filter_eq_nil_iff.2 (fun x hx => by have := hge x hx; simp; omega), List.append_nil]
    rw [e1, e2] at hf; exact hf
  · obtain ⟨g1, g2⟩ := h.ex x ((hmem x).2 (.inl hx)) j y hj hy
    exact ⟨g1, fun hm => g2 ((hmem y).2 (.inl hm))⟩
  · have hxv : x ≠ v := fun e => by have := h01 x hx; subst e; omega
    exact h.fin x ((hmem x).2 (.inl hx)) (by simp [hxn, hxv])
  · have hxv : x ≠ v := fun e => by have := h01 x hx; subst e; omega
    obtain ⟨p, hp, k1, k2, k3⟩ := h.low x ((hmem x).2 (.inl hx)) (by simp [hxn, hxv])
    simp only [List.mem_append, List.mem_singleton] at hp
    rcases hp with hp | rfl
    · exact ⟨p, hp, k1, k2, fun q hq => k3 q (by simp [hq])⟩
    · have := h01 x hx; omega
  · intro u w hu hun hw hwn h1 h2
    have gone : ∀ a b, ix a ≠ 0 → a ∉ s0 → a ∉ v :: s1 → Way (fun a b => b ∈ adj a) a b → b ∉ v :: s1 := by
      intro a b ha ha0 ha1 hab hb
      have := hab.closed (P := fun x => ix x ≠ 0 ∧ x ∉ s0 ++ v :: s1) (fun x y hx hxy => h.cl x hx.1 hx.2 y hxy) ⟨ha, fun hm => ((hmem a).1 hm).elim ha0 ha1⟩
      exact this.2 ((hmem b).2 (.inr hb))
    by_cases hu1 : u ∈ v :: s1
    · by_cases hw1 : w ∈ v :: s1
      · rw [hc u hu1, hc w hw1]
      · exact absurd hu1 (gone w u hw hwn hw1 h2)
    · have hw1 := gone u w hu hun hu1 h1
      rw [hc' u hu1, hc' w hw1]
      exact h.cmp u w hu (fun hm => ((hmem u).1 hm).elim hun hu1) hw (fun hm => ((hmem w).1 hm).elim hwn hw1) h1 h2
  · obtain ⟨k1, s, hs', k2⟩ := h.lwb x ((hmem x).2 (.inl hx))
    refine ⟨k1, s, ?_, k2⟩
    rcases (hmem s).1 hs' with hs'' | hs''
    · exact hs''
    · have := hge s hs''; have := h01 x hx; omega

/-- No path: nothing stands on the stack. -/
theorem T.empty (h : T adj N ix lw cm ne st [] vis) : st = [] := by
  cases st with
  | nil => rfl
  | cons x st =>
    obtain ⟨p, hp, _⟩ := h.low x (by simp) (by simp)
    cases hp
end
end Go.Proofs.Ybulkcdco
