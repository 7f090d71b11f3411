import Derived.Test.YbulkcdcoRw
namespace Go.Proofs.Ybulkcdco
open Go.RowKit
open Go.ChangeMaps (setBlock)

/-- Two things as one. -/
def Res.two (r s : Res) : Res where
  F := fun b => r.F b ∨ s.F b
  A := fun w => r.A w ∧ s.A w
  keep := fun w w' S h k hS => ⟨r.keep w w' S h.1 k (fun b hb => hS b (.inl hb)), s.keep w w' S h.2 k (fun b hb => hS b (.inr hb))⟩
  lt := fun w b h hb => hb.elim (r.lt w b h.1) (s.lt w b h.2)

theorem map_set_same {α β : Type} (g : α → β) (l : List α) (i : Nat) (hi : i < l.length) (x : α) (h : g x = g l[i]) : (l.set i x).map g = l.map g := by
  apply List.ext_getElem
  · simp
  · intro j h1 h2
    simp only [List.getElem_map, List.getElem_set]
    split
    · rename_i e; subst e; exact h
    · rfl

theorem own_type {w : World} {e : TypeId} {z : Nat} {v : Value} {n : Nat} {xs : List Value} (h : w.ownsRow 0 e z v n xs) {g : Nat} (hg : v.ownBlock = some g) : ∃ cs fr, w.heap[g]? = some (.cells cs e fr) := by
  rcases h.2 with ⟨rfl, _⟩ | ⟨g', cap, cur, rfl, hb, hg', _⟩
  · simp [Value.ownBlock] at hg
  · simp [Value.ownBlock] at hg; subst hg; exact ⟨_, _, hg'⟩

section
variable {w : World} {pg B : Nat} {vp : Value} {L : List E} {PL : List Ob}
theorem Rws.fne (h : Rws w pg B vp L PL) {x : E} (hx : x ∈ L) : pg ≠ x.f ∧ B ≠ x.f ∧ vp.ownBlock ≠ some x.f := by
  have hf := h.fs x hx
  refine ⟨fun e => ?_, fun e => ?_, fun e => ?_⟩
  · have := h.blk; rw [e, hf] at this; simp at this
  · obtain ⟨es, clock, hb, _⟩ := h.map; rw [e, hf] at hb; simp at hb
  · obtain ⟨cs, fr, hc⟩ := own_type h.prt e; rw [hf] at hc; simp at hc

theorem Rws.put1 (h : Rws w pg B vp L PL) (i : Nat) (hi : i < L.length) (x' : E) (ho : x'.o = L[i].o) (hf : x'.f = L[i].f) (c : Nat) (u : Value) (hc : (#[Value.int .i64 L[i].a, Value.int .i64 L[i].d]).setIfInBounds c u = #[.int .i64 x'.a, .int .i64 x'.d]) :
    Rws (w.setCell ⟨L[i].f, c, none⟩ u) pg B vp (L.set i x') PL ∧ Keeps (RF pg B vp L) w (w.setCell ⟨L[i].f, c, none⟩ u) := by
  have hm : L[i] ∈ L := by simp
  obtain ⟨n1, n2, n3⟩ := h.fne hm
  have hks : Keeps (fun b => b = L[i].f) w (w.setCell ⟨L[i].f, c, none⟩ u) := (Keeps.refl (fun b => b = L[i].f) w).setCell (p := ⟨L[i].f, c, none⟩) (fun _ => rfl) _
  obtain ⟨es, clock, hb, he⟩ := h.map
  refine ⟨⟨(hks.block pg (heap_lt h.blk) n1).trans h.blk, ⟨es, clock, (hks.block B (heap_lt hb) n2).trans hb, ?_⟩, ?_, hks.own h.prt (fun g hg e => n3 (e ▸ hg)), ?_, ?_, ?_, h.pok⟩, hks.mono (fun b _ hb => .inr (.inr (.inl ⟨L[i], hm, hb.symm⟩)))⟩
  · rw [he, map_set_same _ L i hi x' (by simp [ho, E.ptr, hf])]
  · intro x hx
    obtain ⟨j, hj, rfl⟩ := List.getElem_of_mem hx
    rw [List.getElem_set]
    split
    · rename_i e; subst e
      rw [hf, heap_setCell _ (h.fs _ hm), hc]
    · rename_i e
      have hj' : j < L.length := by simpa using hj
      have hne : L[j].f ≠ L[i].f := fun e' => e (((List.getElem_inj (xs := L.map E.f) h.dis (h₀ := by simpa using hj') (h₁ := by simpa using hi)).1 (by simpa using e')).symm)
      exact (hks.block _ (heap_lt (h.fs _ (by simp))) hne).trans (h.fs _ (by simp))
  · rw [map_set_same _ L i hi x' hf]; exact h.dis
  · rw [map_set_same _ L i hi x' ho]; exact h.nod
  · intro x hx
    rcases List.mem_or_eq_of_mem_set hx with hx | rfl
    · exact h.ok x hx
    · rw [ho]; exact h.ok _ hm

theorem heap_setBlock (w : World) (b : Nat) (o : Obj) (hb : b < w.heap.size) : (setBlock w b o).heap[b]? = some o := by
  show (w.heap.setIfInBounds b o)[b]? = some o
  simp [hb]
theorem keeps_setBlock (w : World) (b : Nat) (o : Obj) : Keeps (fun x => x = b) w (setBlock w b o) :=
  ⟨rfl, rfl, rfl, by show _ ≤ (w.heap.setIfInBounds b o).size; simp, fun k hk hn => by show (w.heap.setIfInBounds b o)[k]? = _; rw [Array.getElem?_setIfInBounds_ne (fun e => hn e.symm)]⟩

theorem Rws.grow (h : Rws w pg B vp L PL) (o : Ob) (ho : o.Ok) (hn : ∀ x ∈ L, x.o ≠ o) (f : Nat) (hf : w.heap[f]? = some (.cells #[.int .i64 0, .int .i64 0] 45 (0, 0))) (hd : ¬ RF pg B vp L f) {es' : Array MapEntry} {clock' : Nat}
    (he : es'.toList.map (fun x => (x.key, x.val)) = L.map (fun x => (x.o.v, x.ptr)) ++ [(o.v, .pointer (some ⟨f, 0, none⟩))]) :
    Rws (setBlock w B (.map es' clock')) pg B vp (L ++ [⟨o, f, 0, 0⟩]) PL := by
  obtain ⟨es, clock, hb, _⟩ := h.map
  have hks := keeps_setBlock w B (.map es' clock')
  have hpB : pg ≠ B := fun e => by have := h.blk; rw [e, hb] at this; simp at this
  have hvB : vp.ownBlock ≠ some B := fun e => by obtain ⟨cs, fr, hc⟩ := own_type h.prt e; rw [hb] at hc; simp at hc
  have hfB : f ≠ B := fun e => hd (.inr (.inl e))
  refine ⟨(hks.block pg (heap_lt h.blk) hpB).trans h.blk, ⟨es', clock', heap_setBlock w B _ (heap_lt hb), by rw [he]; simp [E.ptr]⟩, ?_, hks.own h.prt (fun g hg e => hvB (e ▸ hg)), ?_, ?_, ?_, h.pok⟩
  · intro x hx
    simp only [List.mem_append, List.mem_singleton] at hx
    rcases hx with hx | rfl
    · exact (hks.block _ (heap_lt (h.fs x hx)) (fun e => (h.fne hx).2.1 e.symm)).trans (h.fs x hx)
    · exact (hks.block f (heap_lt hf) hfB).trans hf
  · rw [List.map_append]
    refine List.nodup_append.2 ⟨h.dis, by simp, ?_⟩
    intro a ha b hb' e
    simp only [List.mem_map] at ha
    obtain ⟨x, hx, rfl⟩ := ha
    simp at hb'
    exact hd (.inr (.inr (.inl ⟨x, hx, e.trans hb'⟩)))
  · rw [List.map_append]
    refine List.nodup_append.2 ⟨h.nod, by simp, ?_⟩
    intro a ha b hb' e
    simp only [List.mem_map] at ha
    obtain ⟨x, hx, rfl⟩ := ha
    simp at hb'
    exact hn x hx (e.trans hb')
  · intro x hx
    simp only [List.mem_append, List.mem_singleton] at hx
    rcases hx with hx | rfl
    · exact h.ok x hx
    · exact ho

/-- The ports are appended to and stored. -/
theorem Rws.ports (h : Rws w pg B vp L PL) (o : Ob) (ho : o.Ok) {w1 : World} {v' : Value} {n' : Nat} (hA : App 37 5 w vp PL.length (PL.flatMap Ob.cells) v' w1 n' (PL.flatMap Ob.cells ++ o.cells)) (hn : n' = PL.length + 1) :
    Rws (w1.setCell ⟨pg, 1, none⟩ v') pg B v' L (PL ++ [o]) ∧ Keeps (RF pg B vp L) w (w1.setCell ⟨pg, 1, none⟩ v') ∧ ∀ b, RF pg B v' L b → RF pg B vp L b ∨ w.heap.size ≤ b := by
  subst hn
  obtain ⟨es, clock, hb, he⟩ := h.map
  have hvp : vp.ownBlock ≠ some pg := fun e => by obtain ⟨cs, fr, hc⟩ := own_type h.prt e; rw [h.blk] at hc; simp at hc
  have hvB : vp.ownBlock ≠ some B := fun e => by obtain ⟨cs, fr, hc⟩ := own_type h.prt e; rw [hb] at hc; simp at hc
  have hpB : B ≠ pg := fun e => by have := h.blk; rw [← e, hb] at this; simp at this
  have hb1 := (hA.keeps.block pg (heap_lt h.blk) hvp).trans h.blk
  have hks : Keeps (fun b => b = pg) w1 (w1.setCell ⟨pg, 1, none⟩ v') := (Keeps.refl (fun b => b = pg) w1).setCell (p := ⟨pg, 1, none⟩) (fun _ => rfl) _
  have hv' : v'.ownBlock ≠ some pg := fun e => by rcases hA.moved _ e with h1 | h1; exact hvp h1; have := heap_lt h.blk; omega
  have st : ∀ {g : Nat} {o : Obj}, w.heap[g]? = some o → vp.ownBlock ≠ some g → g ≠ pg → (w1.setCell ⟨pg, 1, none⟩ v').heap[g]? = some o := fun {g o} h1 h2 h3 =>
    ((hks.block g (Nat.lt_of_lt_of_le (heap_lt h1) hA.keeps.size) h3).trans (hA.keeps.block g (heap_lt h1) h2)).trans h1
  refine ⟨⟨by rw [heap_setCell _ hb1]; simp, ⟨es, clock, st hb hvB hpB, he⟩, fun x hx => st (h.fs x hx) (h.fne hx).2.2 (fun e => (h.fne hx).1 e.symm), ?_, h.dis, h.nod, h.ok, ?_⟩, ?_, ?_⟩
  · have := hks.own hA.own (fun g hg e => hv' (e ▸ hg))
    simpa using this
  · intro p hp
    simp only [List.mem_append, List.mem_singleton] at hp
    rcases hp with hp | rfl
    · exact h.pok p hp
    · exact ho
  · exact (hA.keeps.mono (fun b _ hb => .inr (.inr (.inr hb)))).setCell (p := ⟨pg, 1, none⟩) (fun _ => .inl rfl) _
  · intro b hb
    rcases hb with hb | hb | hb | hb
    · exact .inl (.inl hb)
    · exact .inl (.inr (.inl hb))
    · exact .inl (.inr (.inr (.inl hb)))
    · rcases hA.moved b hb with e | e
      · exact .inl (.inr (.inr (.inr e)))
      · exact .inr e
end
end Go.Proofs.Ybulkcdco
