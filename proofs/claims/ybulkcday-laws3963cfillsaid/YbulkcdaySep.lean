import Derived.Test.YbulkcdayFillL
namespace Go.Proofs.Ybulkcday
open Go.RowKit

/-- Something in memory: its blocks, what holds of them. -/
structure Res where
  F : Nat → Prop
  A : World → Prop
  keep : ∀ (w w' : World) (S : Nat → Prop), A w → Keeps S w w' → (∀ b, F b → ¬ S b) → A w'
  lt : ∀ (w : World) (b : Nat), A w → F b → b < w.heap.size

def Res.row (e : TypeId) (v : Value) (xs : List Value) : Res where
  F := fun b => v.ownBlock = some b
  A := fun w => w.ownsRow 0 e 1 v xs.length xs
  keep := fun _ _ _ h k hS => k.own h hS
  lt := fun _ b h hb => (h.lt b hb).2
def Res.k (k : K) : Res where
  F := k.foot
  A := fun w => k.ok w
  keep := fun _ _ _ h k hS => h.keep k hS
  lt := fun _ b h hb => h.lt b hb

/-- Each apart from the others; none of it in the blocks of w0. -/
structure Sep (w0 w : World) (rs : List Res) : Prop where
  base : Keeps (fun _ => False) w0 w
  all : ∀ r ∈ rs, r.A w
  dis : rs.Pairwise (fun r s => ∀ b, r.F b → ¬ s.F b)
  new : ∀ r ∈ rs, ∀ b, r.F b → w0.heap.size ≤ b

theorem Sep.nil {w0 w : World} (h : Keeps (fun _ => False) w0 w) : Sep w0 w [] := ⟨h, (fun _ h => by cases h), .nil, fun _ h => by cases h⟩
theorem Sep.quiet {w0 w w' : World} {rs : List Res} (h : Sep w0 w rs) (k : Keeps (fun _ => False) w w') : Sep w0 w' rs :=
  ⟨h.base.trans k (fun _ _ h => h), fun r hr => r.keep w w' _ (h.all r hr) k (fun _ _ h => h), h.dis, h.new⟩
theorem Sep.perm {w0 w : World} {rs ss : List Res} (h : Sep w0 w rs) (p : rs.Perm ss) : Sep w0 w ss :=
  ⟨h.base, fun r hr => h.all r (p.mem_iff.2 hr), (p.pairwise_iff (fun {_ _} hxy b hb ha => hxy b ha hb)).1 h.dis, fun r hr => h.new r (p.mem_iff.2 hr)⟩
/-- The first turns. -/
theorem Sep.upd1 {w0 w w' : World} {r r' : Res} {rs : List Res} (h : Sep w0 w (r :: rs)) (ha : r'.A w') (k : Keeps r.F w w') (g : ∀ b, r'.F b → r.F b ∨ w.heap.size ≤ b) : Sep w0 w' (r' :: rs) := by
  have hd := List.pairwise_cons.1 h.dis
  refine ⟨h.base.trans k (fun b hb hF => ?_), ?_, List.pairwise_cons.2 ⟨fun s hs b hb hs' => ?_, hd.2⟩, ?_⟩
  · have := h.new r (by simp) b hF; omega
  · intro s hs
    rcases List.mem_cons.1 hs with rfl | hs
    · exact ha
    · exact s.keep w w' _ (h.all s (List.mem_cons_of_mem _ hs)) k (fun b hb hr => hd.1 s hs b hr hb)
  · rcases g b hb with e | e
    · exact hd.1 s hs b e hs'
    · have := s.lt w b (h.all s (List.mem_cons_of_mem _ hs)) hs'; omega
  · intro s hs b hb
    rcases List.mem_cons.1 hs with rfl | hs
    · rcases g b hb with e | e
      · exact h.new r (by simp) b e
      · have := h.base.size; omega
    · exact h.new s (List.mem_cons_of_mem _ hs) b hb
/-- Something new. -/
theorem Sep.add {w0 w w' : World} {r : Res} {rs : List Res} (h : Sep w0 w rs) (ha : r.A w') (k : Keeps (fun _ => False) w w') (g : ∀ b, r.F b → w.heap.size ≤ b) : Sep w0 w' (r :: rs) := by
  have h' := h.quiet k
  refine ⟨h'.base, ?_, List.pairwise_cons.2 ⟨fun s hs b hb hs' => ?_, h.dis⟩, ?_⟩
  · intro s hs
    rcases List.mem_cons.1 hs with rfl | hs
    · exact ha
    · exact h'.all s hs
  · have := s.lt w b (h.all s hs) hs'
    have := g b hb
    omega
  · intro s hs b hb
    rcases List.mem_cons.1 hs with rfl | hs
    · have := g b hb; have := h.base.size; omega
    · exact h.new s hs b hb
theorem Sep.head {w0 w : World} {r : Res} {rs : List Res} (h : Sep w0 w (r :: rs)) : r.A w := h.all r (by simp)
theorem Sep.tail {w0 w : World} {r : Res} {rs : List Res} (h : Sep w0 w (r :: rs)) : Sep w0 w rs := ⟨h.base, fun s hs => h.all s (List.mem_cons_of_mem _ hs), (List.pairwise_cons.1 h.dis).2, fun s hs => h.new s (List.mem_cons_of_mem _ hs)⟩
/-- Two become one. -/
theorem Sep.join {w0 w : World} {r s t : Res} {rs : List Res} (h : Sep w0 w (r :: s :: rs)) (ha : t.A w) (hF : ∀ b, t.F b → r.F b ∨ s.F b) : Sep w0 w (t :: rs) := by
  have h1 := List.pairwise_cons.1 h.dis
  have h2 := List.pairwise_cons.1 h1.2
  refine ⟨h.base, ?_, List.pairwise_cons.2 ⟨fun u hu b hb hu' => ?_, h2.2⟩, ?_⟩
  · intro u hu
    rcases List.mem_cons.1 hu with rfl | hu
    · exact ha
    · exact h.all u (by simp [hu])
  · rcases hF b hb with e | e
    · exact h1.1 u (List.mem_cons_of_mem _ hu) b e hu'
    · exact h2.1 u hu b e hu'
  · intro u hu b hb
    rcases List.mem_cons.1 hu with rfl | hu
    · rcases hF b hb with e | e
      · exact h.new r (by simp) b e
      · exact h.new s (by simp) b e
    · exact h.new u (by simp [hu]) b hb

/-- A node under building. -/
structure Rw (w : World) (p : Nat) (vt ve vk : Value) (X Z G : List Value) : Prop where
  blk : w.heap[p]? = some (.cells #[vt, ve, vk, .int .u64 0] 30 (0, 0))
  txt : w.ownsRow 0 5 1 vt X.length X
  ens : w.ownsRow 0 3 1 ve Z.length Z
  kid : w.ownsRow 0 24 1 vk G.length G
  pt : vt.ownBlock ≠ some p
  pe : ve.ownBlock ≠ some p
  pk : vk.ownBlock ≠ some p
  te : Apart vt.ownBlock ve.ownBlock
  tk : Apart vt.ownBlock vk.ownBlock
  ek : Apart ve.ownBlock vk.ownBlock
def Wf (p : Nat) (vt ve vk : Value) (b : Nat) : Prop := b = p ∨ vt.ownBlock = some b ∨ ve.ownBlock = some b ∨ vk.ownBlock = some b

theorem Rw.keep {S : Nat → Prop} {w w1 : World} {p : Nat} {vt ve vk : Value} {X Z G : List Value} (h : Rw w p vt ve vk X Z G) (k : Keeps S w w1) (hS : ∀ b, Wf p vt ve vk b → ¬ S b) : Rw w1 p vt ve vk X Z G :=
  ⟨(k.block p (Array.getElem?_eq_some_iff.1 h.blk).1 (hS p (.inl rfl))).trans h.blk, k.own h.txt (fun g hg => hS g (.inr (.inl hg))), k.own h.ens (fun g hg => hS g (.inr (.inr (.inl hg)))), k.own h.kid (fun g hg => hS g (.inr (.inr (.inr hg)))), h.pt, h.pe, h.pk, h.te, h.tk, h.ek⟩
theorem Rw.lt {w : World} {p : Nat} {vt ve vk : Value} {X Z G : List Value} (h : Rw w p vt ve vk X Z G) (b : Nat) (hb : Wf p vt ve vk b) : b < w.heap.size := by
  rcases hb with rfl | hb | hb | hb
  · exact (Array.getElem?_eq_some_iff.1 h.blk).1
  · exact (h.txt.lt _ hb).2
  · exact (h.ens.lt _ hb).2
  · exact (h.kid.lt _ hb).2
def Res.w (p : Nat) (vt ve vk : Value) (X Z G : List Value) : Res where
  F := Wf p vt ve vk
  A := fun w => Rw w p vt ve vk X Z G
  keep := fun _ _ _ h k hS => h.keep k hS
  lt := fun _ b h hb => h.lt b hb

theorem Rw.cells {w : World} {p : Nat} {vt ve vk : Value} {X Z G : List Value} (h : Rw w p vt ve vk X Z G) :
    w.cell? ⟨p, 0, none⟩ = some vt ∧ w.cell? ⟨p, 1, none⟩ = some ve ∧ w.cell? ⟨p, 2, none⟩ = some vk ∧ ∀ o, w.frozen? ⟨p, o, none⟩ = false := by
  refine ⟨?_, ?_, ?_, fun o => ?_⟩ <;> simp [World.cell?, World.frozen?, h.blk]

theorem Rw.new (w : World) : Rw (w.alloc (.cells #[.slice none 0 0, .slice none 0 0, .slice none 0 0, .int .u64 0] 30)) w.heap.size (.slice none 0 0) (.slice none 0 0) (.slice none 0 0) [] [] [] :=
  ⟨heap_alloc_new w _, World.ownsRow_nil _ _ _ _, World.ownsRow_nil _ _ _ _, World.ownsRow_nil _ _ _ _, by simp [Value.ownBlock], by simp [Value.ownBlock], by simp [Value.ownBlock], (fun g hg => by simp [Value.ownBlock] at hg), (fun g hg => by simp [Value.ownBlock] at hg), (fun g hg => by simp [Value.ownBlock] at hg)⟩

theorem Rw.st0 {w w1 : World} {p : Nat} {vt ve vk v' : Value} {X Z G X' : List Value} {n' : Nat} (h : Rw w p vt ve vk X Z G) (hA : App 5 1 w vt X.length X v' w1 n' X') :
    Rw (w1.setCell ⟨p, 0, none⟩ v') p v' ve vk X' Z G ∧ Keeps (Wf p vt ve vk) w (w1.setCell ⟨p, 0, none⟩ v') ∧ ∀ b, Wf p v' ve vk b → Wf p vt ve vk b ∨ w.heap.size ≤ b := by
  have hpl : p < w.heap.size := (Array.getElem?_eq_some_iff.1 h.blk).1
  have hb1 := (hA.keeps.block p hpl h.pt).trans h.blk
  have hks : Keeps (fun b => b = p) w1 (w1.setCell ⟨p, 0, none⟩ v') := (Keeps.refl (fun b => b = p) w1).setCell (p := ⟨p, 0, none⟩) (fun _ => rfl) _
  have hvp : v'.ownBlock ≠ some p := fun e => by rcases hA.moved _ e with h1 | h1; exact h.pt h1; omega
  have hm : ∀ g, v'.ownBlock = some g → ve.ownBlock ≠ some g ∧ vk.ownBlock ≠ some g := fun g hg => by
    rcases hA.moved g hg with e | e
    · exact ⟨h.te g e, h.tk g e⟩
    · exact ⟨fun e' => by have := h.ens.lt _ e'; omega, fun e' => by have := h.kid.lt _ e'; omega⟩
  refine ⟨⟨by rw [heap_setCell _ hb1]; simp, ?_, ?_, ?_, hvp, h.pe, h.pk, fun g hg => (hm g hg).1, fun g hg => (hm g hg).2, h.ek⟩, ?_, ?_⟩
  · have := hA.norm.own; exact hks.own this (fun g hg e => hvp (e ▸ hg))
  · exact hks.own (hA.keeps.own h.ens (fun g hg e => h.te g e hg)) (fun g hg e => h.pe (e ▸ hg))
  · exact hks.own (hA.keeps.own h.kid (fun g hg e => h.tk g e hg)) (fun g hg e => h.pk (e ▸ hg))
  · exact (hA.keeps.mono (fun b _ hb => .inr (.inl hb))).setCell (p := ⟨p, 0, none⟩) (fun _ => .inl rfl) _
  · intro b hb
    rcases hb with hb | hb | hb | hb
    · exact .inl (.inl hb)
    · rcases hA.moved b hb with e | e
      · exact .inl (.inr (.inl e))
      · exact .inr e
    · exact .inl (.inr (.inr (.inl hb)))
    · exact .inl (.inr (.inr (.inr hb)))
theorem Rw.st1 {w w1 : World} {p : Nat} {vt ve vk v' : Value} {X Z G X' : List Value} {n' : Nat} (h : Rw w p vt ve vk X Z G) (hA : App 3 1 w ve Z.length Z v' w1 n' X') :
    Rw (w1.setCell ⟨p, 1, none⟩ v') p vt v' vk X X' G ∧ Keeps (Wf p vt ve vk) w (w1.setCell ⟨p, 1, none⟩ v') ∧ ∀ b, Wf p vt v' vk b → Wf p vt ve vk b ∨ w.heap.size ≤ b := by
  have hpl : p < w.heap.size := (Array.getElem?_eq_some_iff.1 h.blk).1
  have hb1 := (hA.keeps.block p hpl h.pe).trans h.blk
  have hks : Keeps (fun b => b = p) w1 (w1.setCell ⟨p, 1, none⟩ v') := (Keeps.refl (fun b => b = p) w1).setCell (p := ⟨p, 1, none⟩) (fun _ => rfl) _
  have hvp : v'.ownBlock ≠ some p := fun e => by rcases hA.moved _ e with h1 | h1; exact h.pe h1; omega
  have hm : ∀ g, v'.ownBlock = some g → vt.ownBlock ≠ some g ∧ vk.ownBlock ≠ some g := fun g hg => by
    rcases hA.moved g hg with e | e
    · exact ⟨h.te.symm g e, h.ek g e⟩
    · exact ⟨fun e' => by have := h.txt.lt _ e'; omega, fun e' => by have := h.kid.lt _ e'; omega⟩
  refine ⟨⟨by rw [heap_setCell _ hb1]; simp, ?_, ?_, ?_, h.pt, hvp, h.pk, fun g hg e => (hm g e).1 hg, h.tk, fun g hg => (hm g hg).2⟩, ?_, ?_⟩
  · exact hks.own (hA.keeps.own h.txt (fun g hg e => h.te.symm g e hg)) (fun g hg e => h.pt (e ▸ hg))
  · have := hA.norm.own; exact hks.own this (fun g hg e => hvp (e ▸ hg))
  · exact hks.own (hA.keeps.own h.kid (fun g hg e => h.ek g e hg)) (fun g hg e => h.pk (e ▸ hg))
  · exact (hA.keeps.mono (fun b _ hb => .inr (.inr (.inl hb)))).setCell (p := ⟨p, 1, none⟩) (fun _ => .inl rfl) _
  · intro b hb
    rcases hb with hb | hb | hb | hb
    · exact .inl (.inl hb)
    · exact .inl (.inr (.inl hb))
    · rcases hA.moved b hb with e | e
      · exact .inl (.inr (.inr (.inl e)))
      · exact .inr e
    · exact .inl (.inr (.inr (.inr hb)))
theorem Rw.st2 {w w1 : World} {p : Nat} {vt ve vk v' : Value} {X Z G X' : List Value} {n' : Nat} (h : Rw w p vt ve vk X Z G) (hA : App 24 1 w vk G.length G v' w1 n' X') :
    Rw (w1.setCell ⟨p, 2, none⟩ v') p vt ve v' X Z X' ∧ Keeps (Wf p vt ve vk) w (w1.setCell ⟨p, 2, none⟩ v') ∧ ∀ b, Wf p vt ve v' b → Wf p vt ve vk b ∨ w.heap.size ≤ b := by
  have hpl : p < w.heap.size := (Array.getElem?_eq_some_iff.1 h.blk).1
  have hb1 := (hA.keeps.block p hpl h.pk).trans h.blk
  have hks : Keeps (fun b => b = p) w1 (w1.setCell ⟨p, 2, none⟩ v') := (Keeps.refl (fun b => b = p) w1).setCell (p := ⟨p, 2, none⟩) (fun _ => rfl) _
  have hvp : v'.ownBlock ≠ some p := fun e => by rcases hA.moved _ e with h1 | h1; exact h.pk h1; omega
  have hm : ∀ g, v'.ownBlock = some g → vt.ownBlock ≠ some g ∧ ve.ownBlock ≠ some g := fun g hg => by
    rcases hA.moved g hg with e | e
    · exact ⟨h.tk.symm g e, h.ek.symm g e⟩
    · exact ⟨fun e' => by have := h.txt.lt _ e'; omega, fun e' => by have := h.ens.lt _ e'; omega⟩
  refine ⟨⟨by rw [heap_setCell _ hb1]; simp, ?_, ?_, ?_, h.pt, h.pe, hvp, h.te, fun g hg e => (hm g e).1 hg, fun g hg e => (hm g e).2 hg⟩, ?_, ?_⟩
  · exact hks.own (hA.keeps.own h.txt (fun g hg e => h.tk.symm g e hg)) (fun g hg e => h.pt (e ▸ hg))
  · exact hks.own (hA.keeps.own h.ens (fun g hg e => h.ek.symm g e hg)) (fun g hg e => h.pe (e ▸ hg))
  · have := hA.norm.own; exact hks.own this (fun g hg e => hvp (e ▸ hg))
  · exact (hA.keeps.mono (fun b _ hb => .inr (.inr (.inr hb)))).setCell (p := ⟨p, 2, none⟩) (fun _ => .inl rfl) _
  · intro b hb
    rcases hb with hb | hb | hb | hb
    · exact .inl (.inl hb)
    · exact .inl (.inr (.inl hb))
    · exact .inl (.inr (.inr (.inl hb)))
    · rcases hA.moved b hb with e | e
      · exact .inl (.inr (.inr (.inr e)))
      · exact .inr e

/-- Built: a node with keys. -/
theorem Rw.done {w : World} {p : Nat} {vt ve vk : Value} {ks : List (List Value)} {G : List Value} (h : Rw w p vt ve vk ks.flatten (ivals (endsF 0 ks)) G) (h0 : 0 < ks.length) (hs : ∀ k ∈ ks, IsStr k) (hp : ∀ k ∈ ks, 0 < k.length ∧ k.length ≤ 100) (hf : ks.length ≤ 10000) (hG : ∀ u ∈ G, ∃ a, u = Value.pointer a) :
    ∃ gt ct ge ce, (K.mk p gt ct ge ce vk ks G).ok w ∧ ∀ b, (K.mk p gt ct ge ce vk ks G).foot b ↔ Wf p vt ve vk b := by
  have hl : (ivals (endsF 0 ks)).length = ks.length := by simp [ivals, endsF_length]
  have hfl : 0 < ks.flatten.length := by
    cases ks with
    | nil => simp at h0
    | cons k ks => have := hp k (by simp); simp only [List.flatten_cons, List.length_append]; omega
  have hens : w.ownsRow 0 3 1 ve ks.length (ivals (endsF 0 ks)) := by have := h.ens; rw [hl] at this; exact this
  obtain ⟨gt, ct, rfl, -, -, hb1, -, -⟩ := own_some h.txt hfl
  obtain ⟨ge, ce, rfl, -, -, hb2, -, -⟩ := own_some hens h0
  refine ⟨gt, ct, ge, ce, ⟨⟨h.blk, h.txt, hens, ?_, ?_, ?_⟩, h.kid, h.pk, h.tk gt rfl, h.ek ge rfl, ?_, hp, hf, hG⟩, fun b => ?_⟩
  · intro e; exact h.pt (hb1.trans (congrArg some (show gt = p from e.symm)))
  · intro e; exact h.pe (hb2.trans (congrArg some (show ge = p from e.symm)))
  · intro e; exact h.te gt rfl (hb2.trans (congrArg some (show ge = gt from e.symm)))
  · intro k hk u hu
    have := hs k hk
    unfold IsStr at this
    rw [← this] at hu
    exact str_key _ u hu
  · unfold K.foot Foot Wf
    simp only [Value.ownBlock]
    constructor
    · rintro (h | h | h | h)
      · exact .inl h
      · exact .inr (.inl (by rw [h]))
      · exact .inr (.inr (.inl (by rw [h])))
      · exact .inr (.inr (.inr h))
    · rintro (h | h | h | h)
      · exact .inl h
      · exact .inr (.inl (by injection h with h; exact h.symm))
      · exact .inr (.inr (.inl (by injection h with h; exact h.symm)))
      · exact .inr (.inr (.inr h))
end Go.Proofs.Ybulkcday
