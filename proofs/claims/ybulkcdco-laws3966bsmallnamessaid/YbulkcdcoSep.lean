import Derived.Test.YbulkcdcoMp
namespace Go.Proofs.Ybulkcdco
open Go.RowKit

/-- Something in memory: its blocks, what holds of them. -/
structure Res where
  F : Nat → Prop
  A : World → Prop
  keep : ∀ (w w' : World) (S : Nat → Prop), A w → Keeps S w w' → (∀ b, F b → ¬ S b) → A w'
  lt : ∀ (w : World) (b : Nat), A w → F b → b < w.heap.size

def Res.row (e : TypeId) (z : Nat) (v : Value) (n : Nat) (xs : List Value) : Res where
  F := fun b => v.ownBlock = some b
  A := fun w => w.ownsRow 0 e z v n xs
  keep := fun _ _ _ h k hS => k.own h hS
  lt := fun _ b h hb => (h.lt b hb).2
/-- A block of cells. -/
def Res.blk (g : Nat) (cs : Array Value) (t : TypeId) : Res where
  F := fun b => b = g
  A := fun w => w.heap[g]? = some (.cells cs t (0, 0))
  keep := fun w w' S h k hS => (k.block g (Array.getElem?_eq_some_iff.1 h).1 (hS g rfl)).trans h
  lt := fun w b h hb => by subst hb; exact (Array.getElem?_eq_some_iff.1 h).1

/-- Each apart from the others; none of it in the blocks of w0. -/
structure Sep (w0 w : World) (rs : List Res) : Prop where
  base : Keeps (fun _ => False) w0 w
  all : ∀ r ∈ rs, r.A w
  dis : rs.Pairwise (fun r s => ∀ b, r.F b → ¬ s.F b)
  new : ∀ r ∈ rs, ∀ b, r.F b → w0.heap.size ≤ b

theorem Sep.nil {w0 w : World} (h : Keeps (fun _ => False) w0 w) : Sep w0 w [] := ⟨h, (fun _ h => by cases h), .nil, fun _ h => by cases h⟩
theorem Sep.quiet {w0 w w' : World} {rs : List Res} (h : Sep w0 w rs) (k : Keeps (fun _ => False) w w') : Sep w0 w' rs :=
  ⟨h.base.trans k (fun _ _ h => h), fun r hr => r.keep w w' _ (h.all r hr) k (fun _ _ h => h), h.dis, h.new⟩
theorem Sep.perm {w0 w : World} {rs ss : List Res} (h : Sep w0 w rs) (p : rs.Perm ss) : Sep w0 w ss :=
  ⟨h.base, fun r hr => h.all r (p.mem_iff.2 hr), (p.pairwise_iff (fun {_ _} hxy b hb ha => hxy b ha hb)).1 h.dis, fun r hr => h.new r (p.mem_iff.2 hr)⟩
/-- The first turns. -/
theorem Sep.upd1 {w0 w w' : World} {r r' : Res} {rs : List Res} (h : Sep w0 w (r :: rs)) (ha : r'.A w') (k : Keeps r.F w w') (g : ∀ b, r'.F b → r.F b ∨ w.heap.size ≤ b) : Sep w0 w' (r' :: rs) := by
  have hd := List.pairwise_cons.1 h.dis
  refine ⟨h.base.trans k (fun b hb hF => ?_), ?_, List.pairwise_cons.2 ⟨fun s hs b hb hs' => ?_, hd.2⟩, ?_⟩
  · have := h.new r (by simp) b hF; omega
  · intro s hs
    rcases List.mem_cons.1 hs with rfl | hs
    · exact ha
    · exact s.keep w w' _ (h.all s (List.mem_cons_of_mem _ hs)) k (fun b hb hr => hd.1 s hs b hr hb)
  · rcases g b hb with e | e
    · exact hd.1 s hs b e hs'
    · have := s.lt w b (h.all s (List.mem_cons_of_mem _ hs)) hs'; omega
  · intro s hs b hb
    rcases List.mem_cons.1 hs with rfl | hs
    · rcases g b hb with e | e
      · exact h.new r (by simp) b e
      · have := h.base.size; omega
    · exact h.new s (List.mem_cons_of_mem _ hs) b hb
/-- Something new. -/
theorem Sep.add {w0 w w' : World} {r : Res} {rs : List Res} (h : Sep w0 w rs) (ha : r.A w') (k : Keeps (fun _ => False) w w') (g : ∀ b, r.F b → w.heap.size ≤ b) : Sep w0 w' (r :: rs) := by
  have h' := h.quiet k
  refine ⟨h'.base, ?_, List.pairwise_cons.2 ⟨fun s hs b hb hs' => ?_, h.dis⟩, ?_⟩
  · intro s hs
    rcases List.mem_cons.1 hs with rfl | hs
    · exact ha
    · exact h'.all s hs
  · have := s.lt w b (h.all s hs) hs'
    have := g b hb
    omega
  · intro s hs b hb
    rcases List.mem_cons.1 hs with rfl | hs
    · have := g b hb; have := h.base.size; omega
    · exact h.new s hs b hb
theorem Sep.head {w0 w : World} {r : Res} {rs : List Res} (h : Sep w0 w (r :: rs)) : r.A w := h.all r (by simp)
theorem Sep.tail {w0 w : World} {r : Res} {rs : List Res} (h : Sep w0 w (r :: rs)) : Sep w0 w rs := ⟨h.base, fun s hs => h.all s (List.mem_cons_of_mem _ hs), (List.pairwise_cons.1 h.dis).2, fun s hs => h.new s (List.mem_cons_of_mem _ hs)⟩
/-- Two become one. -/
theorem Sep.join {w0 w : World} {r s t : Res} {rs : List Res} (h : Sep w0 w (r :: s :: rs)) (ha : t.A w) (hF : ∀ b, t.F b → r.F b ∨ s.F b) : Sep w0 w (t :: rs) := by
  have h1 := List.pairwise_cons.1 h.dis
  have h2 := List.pairwise_cons.1 h1.2
  refine ⟨h.base, ?_, List.pairwise_cons.2 ⟨fun u hu b hb hu' => ?_, h2.2⟩, ?_⟩
  · intro u hu
    rcases List.mem_cons.1 hu with rfl | hu
    · exact ha
    · exact h.all u (by simp [hu])
  · rcases hF b hb with e | e
    · exact h1.1 u (List.mem_cons_of_mem _ hu) b e hu'
    · exact h2.1 u hu b e hu'
  · intro u hu b hb
    rcases List.mem_cons.1 hu with rfl | hu
    · rcases hF b hb with e | e
      · exact h.new r (by simp) b e
      · exact h.new s (by simp) b e
    · exact h.new u (by simp [hu]) b hb

section
variable {w0 w w' : World} {a b c d e f : Res} {rs : List Res}
theorem Sep.p2 (S : Sep w0 w (a :: b :: rs)) : Sep w0 w (b :: a :: rs) := S.perm (.swap _ _ _)
theorem Sep.p3 (S : Sep w0 w (a :: b :: c :: rs)) : Sep w0 w (c :: a :: b :: rs) := S.perm ((List.Perm.cons _ (.swap _ _ _)).trans (.swap _ _ _))
theorem Sep.q3 (S : Sep w0 w (a :: b :: c :: rs)) : Sep w0 w (b :: c :: a :: rs) := S.p3.p3
theorem Sep.p4 (S : Sep w0 w (a :: b :: c :: d :: rs)) : Sep w0 w (d :: a :: b :: c :: rs) :=
  S.perm ((List.Perm.cons _ ((List.Perm.cons _ (.swap _ _ _)).trans (.swap _ _ _))).trans (.swap _ _ _))
theorem Sep.q4 (S : Sep w0 w (a :: b :: c :: d :: rs)) : Sep w0 w (b :: c :: d :: a :: rs) := S.p4.p4.p4
theorem Sep.p5 (S : Sep w0 w (a :: b :: c :: d :: e :: rs)) : Sep w0 w (e :: a :: b :: c :: d :: rs) :=
  S.perm ((List.Perm.cons _ ((List.Perm.cons _ ((List.Perm.cons _ (.swap _ _ _)).trans (.swap _ _ _))).trans (.swap _ _ _))).trans (.swap _ _ _))
theorem Sep.q5 (S : Sep w0 w (a :: b :: c :: d :: e :: rs)) : Sep w0 w (b :: c :: d :: e :: a :: rs) := S.p5.p5.p5.p5
theorem Sep.p6 (S : Sep w0 w (a :: b :: c :: d :: e :: f :: rs)) : Sep w0 w (f :: a :: b :: c :: d :: e :: rs) :=
  S.perm ((List.Perm.cons _ ((List.Perm.cons _ ((List.Perm.cons _ ((List.Perm.cons _ (.swap _ _ _)).trans (.swap _ _ _))).trans (.swap _ _ _))).trans (.swap _ _ _))).trans (.swap _ _ _))
theorem Sep.q6 (S : Sep w0 w (a :: b :: c :: d :: e :: f :: rs)) : Sep w0 w (b :: c :: d :: e :: f :: a :: rs) := S.p6.p6.p6.p6.p6
end

theorem Sep.app {w0 w w1 : World} {rs : List Res} {e : TypeId} {z : Nat} {v v' : Value} {n n' : Nat} {xs xs' : List Value} (S : Sep w0 w (Res.row e z v n xs :: rs)) (hA : App e z w v n xs v' w1 n' xs') : Sep w0 w1 (Res.row e z v' n' xs' :: rs) :=
  S.upd1 (r' := Res.row e z v' n' xs') hA.own hA.keeps (fun b hb => hA.moved b hb)
theorem Sep.store {w0 w : World} {rs : List Res} {e : TypeId} {z g n c : Nat} {xs : List Value} (S : Sep w0 w (Res.row e z (.slice (some ⟨g, 0, none⟩) n c) n xs :: rs)) (i : Nat) (u : Value) : Sep w0 (w.setCell ⟨g, i, none⟩ u) (Res.row e z (.slice (some ⟨g, 0, none⟩) n c) n (xs.set i u) :: rs) := by
  have hs := World.ownsRow.stored (show w.ownsRow 0 e z (.slice (some ⟨g, 0, none⟩) n c) n xs from S.head) i u
  refine S.upd1 (r' := Res.row e z (.slice (some ⟨g, 0, none⟩) n c) n (xs.set i u)) hs.1 ?_ (fun b hb => .inl hb)
  exact Keeps.of_grown hs.2 (fun k h => by show Value.ownBlock _ = some k; rw [Value.ownBlock]; simpa using h)
theorem Sep.drop {w0 w : World} {r : Res} {rs : List Res} (S : Sep w0 w (r :: rs)) : Sep w0 w rs := S.tail
theorem Sep.nilRow {w0 w : World} {rs : List Res} (S : Sep w0 w rs) (e : TypeId) (z : Nat) : Sep w0 w (Res.row e z (.slice none 0 0) 0 [] :: rs) :=
  S.add (r := Res.row e z (.slice none 0 0) 0 []) (World.ownsRow_nil _ _ _ _) (Keeps.refl _ w) (fun b hb => by simp [Res.row, Value.ownBlock] at hb)
theorem Sep.newBlk {w0 w : World} {rs : List Res} (S : Sep w0 w rs) (cs : Array Value) (t : TypeId) : Sep w0 (w.alloc (.cells cs t)) (Res.blk w.heap.size cs t :: rs) :=
  S.add (r := Res.blk w.heap.size cs t) (heap_alloc_new w _) ((Keeps.refl _ w).alloc _) (fun _ hb => Nat.le_of_eq hb.symm)
end Go.Proofs.Ybulkcdco
