import Derived.Test.YbulkcdkcOwn
import Derived.Test.YbulkcdkcRows
import Derived.Deep.CutRange
import Derived.Deep.DeepCutAuto
import Derived.Deep.RegionLaw
import Derived.Deep.RegionWith
import Derived.Deep.QuietTactic
import Derived.Deep.LoopGhost
import Derived.StillTailTactics
import Derived.BigQuiet
namespace Go.Proofs.Ybulkcdkc
open Go.RowKit

/-- Something in memory: its blocks, what holds of them. -/
structure Res where
  F : Nat → Prop
  A : World → Prop
  keep : ∀ (w w' : World) (S : Nat → Prop), A w → Keeps S w w' → (∀ b, F b → ¬ S b) → A w'
  lt : ∀ (w : World) (b : Nat), A w → F b → b < w.heap.size

def Res.row (e : TypeId) (z : Nat) (v : Value) (n : Nat) (xs : List Value) : Res where
  F := fun b => v.ownBlock = some b
  A := fun w => w.ownsRow 0 e z v n xs
  keep := fun _ _ _ h k hS => k.own h hS
  lt := fun _ b h hb => (h.lt b hb).2
/-- A block of cells. -/
def Res.blk (g : Nat) (cs : Array Value) (t : TypeId) : Res where
  F := fun b => b = g
  A := fun w => w.heap[g]? = some (.cells cs t (0, 0))
  keep := fun w w' S h k hS => (k.block g (Array.getElem?_eq_some_iff.1 h).1 (hS g rfl)).trans h
  lt := fun w b h hb => by subst hb; exact (Array.getElem?_eq_some_iff.1 h).1

/-- Each apart from the others; none of it in the blocks of w0. -/
structure Sep (w0 w : World) (rs : List Res) : Prop where
  base : Keeps (fun _ => False) w0 w
  all : ∀ r ∈ rs, r.A w
  dis : rs.Pairwise (fun r s => ∀ b, r.F b → ¬ s.F b)
  new : ∀ r ∈ rs, ∀ b, r.F b → w0.heap.size ≤ b

theorem Sep.nil {w0 w : World} (h : Keeps (fun _ => False) w0 w) : Sep w0 w [] := ⟨h, (fun _ h => by cases h), .nil, fun _ h => by cases h⟩
theorem Sep.quiet {w0 w w' : World} {rs : List Res} (h : Sep w0 w rs) (k : Keeps (fun _ => False) w w') : Sep w0 w' rs :=
  ⟨h.base.trans k (fun _ _ h => h), fun r hr => r.keep w w' _ (h.all r hr) k (fun _ _ h => h), h.dis, h.new⟩
theorem Sep.perm {w0 w : World} {rs ss : List Res} (h : Sep w0 w rs) (p : rs.Perm ss) : Sep w0 w ss :=
  ⟨h.base, fun r hr => h.all r (p.mem_iff.2 hr), (p.pairwise_iff (fun {_ _} hxy b hb ha => hxy b ha hb)).1 h.dis, fun r hr => h.new r (p.mem_iff.2 hr)⟩
/-- The first turns. -/
theorem Sep.upd1 {w0 w w' : World} {r r' : Res} {rs : List Res} (h : Sep w0 w (r :: rs)) (ha : r'.A w') (k : Keeps r.F w w') (g : ∀ b, r'.F b → r.F b ∨ w.heap.size ≤ b) : Sep w0 w' (r' :: rs) := by
  have hd := List.pairwise_cons.1 h.dis
  refine ⟨h.base.trans k (fun b hb hF => ?_), ?_, List.pairwise_cons.2 ⟨fun s hs b hb hs' => ?_, hd.2⟩, ?_⟩
  · have := h.new r (by simp) b hF; omega
  · intro s hs
    rcases List.mem_cons.1 hs with rfl | hs
    · exact ha
    · exact s.keep w w' _ (h.all s (List.mem_cons_of_mem _ hs)) k (fun b hb hr => hd.1 s hs b hr hb)
  · rcases g b hb with e | e
    · exact hd.1 s hs b e hs'
    · have := s.lt w b (h.all s (List.mem_cons_of_mem _ hs)) hs'; omega
  · intro s hs b hb
    rcases List.mem_cons.1 hs with rfl | hs
    · rcases g b hb with e | e
      · exact h.new r (by simp) b e
      · have := h.base.size; omega
    · exact h.new s (List.mem_cons_of_mem _ hs) b hb
/-- Something new. -/
theorem Sep.add {w0 w w' : World} {r : Res} {rs : List Res} (h : Sep w0 w rs) (ha : r.A w') (k : Keeps (fun _ => False) w w') (g : ∀ b, r.F b → w.heap.size ≤ b) : Sep w0 w' (r :: rs) := by
  have h' := h.quiet k
  refine ⟨h'.base, ?_, List.pairwise_cons.2 ⟨fun s hs b hb hs' => ?_, h.dis⟩, ?_⟩
  · intro s hs
    rcases List.mem_cons.1 hs with rfl | hs
    · exact ha
    · exact h'.all s hs
  · have := s.lt w b (h.all s hs) hs'
    have := g b hb
    omega
  · intro s hs b hb
    rcases List.mem_cons.1 hs with rfl | hs
    · have := g b hb; have := h.base.size; omega
    · exact h.new s hs b hb
theorem Sep.head {w0 w : World} {r : Res} {rs : List Res} (h : Sep w0 w (r :: rs)) : r.A w := h.all r (by simp)
theorem Sep.tail {w0 w : World} {r : Res} {rs : List Res} (h : Sep w0 w (r :: rs)) : Sep w0 w rs := ⟨h.base, fun s hs => h.all s (List.mem_cons_of_mem _ hs), (List.pairwise_cons.1 h.dis).2, fun s hs => h.new s (List.mem_cons_of_mem _ hs)⟩
/-- Two become one. -/
theorem Sep.join {w0 w : World} {r s t : Res} {rs : List Res} (h : Sep w0 w (r :: s :: rs)) (ha : t.A w) (hF : ∀ b, t.F b → r.F b ∨ s.F b) : Sep w0 w (t :: rs) := by
  have h1 := List.pairwise_cons.1 h.dis
  have h2 := List.pairwise_cons.1 h1.2
  refine ⟨h.base, ?_, List.pairwise_cons.2 ⟨fun u hu b hb hu' => ?_, h2.2⟩, ?_⟩
  · intro u hu
    rcases List.mem_cons.1 hu with rfl | hu
    · exact ha
    · exact h.all u (by simp [hu])
  · rcases hF b hb with e | e
    · exact h1.1 u (List.mem_cons_of_mem _ hu) b e hu'
    · exact h2.1 u hu b e hu'
  · intro u hu b hb
    rcases List.mem_cons.1 hu with rfl | hu
    · rcases hF b hb with e | e
      · exact h.new r (by simp) b e
      · exact h.new s (by simp) b e
    · exact h.new u (by simp [hu]) b hb

section
variable {w0 w w' : World} {a b c d e f : Res} {rs : List Res}
theorem Sep.p2 (S : Sep w0 w (a :: b :: rs)) : Sep w0 w (b :: a :: rs) := S.perm (.swap _ _ _)
theorem Sep.p3 (S : Sep w0 w (a :: b :: c :: rs)) : Sep w0 w (c :: a :: b :: rs) := S.perm ((List.Perm.cons _ (.swap _ _ _)).trans (.swap _ _ _))
theorem Sep.q3 (S : Sep w0 w (a :: b :: c :: rs)) : Sep w0 w (b :: c :: a :: rs) := S.p3.p3
theorem Sep.p4 (S : Sep w0 w (a :: b :: c :: d :: rs)) : Sep w0 w (d :: a :: b :: c :: rs) :=
  S.perm ((List.Perm.cons _ ((List.Perm.cons _ (.swap _ _ _)).trans (.swap _ _ _))).trans (.swap _ _ _))
theorem Sep.q4 (S : Sep w0 w (a :: b :: c :: d :: rs)) : Sep w0 w (b :: c :: d :: a :: rs) := S.p4.p4.p4
theorem Sep.p5 (S : Sep w0 w (a :: b :: c :: d :: e :: rs)) : Sep w0 w (e :: a :: b :: c :: d :: rs) :=
  S.perm ((List.Perm.cons _ ((List.Perm.cons _ ((List.Perm.cons _ (.swap _ _ _)).trans (.swap _ _ _))).trans (.swap _ _ _))).trans (.swap _ _ _))
theorem Sep.q5 (S : Sep w0 w (a :: b :: c :: d :: e :: rs)) : Sep w0 w (b :: c :: d :: e :: a :: rs) := S.p5.p5.p5.p5
theorem Sep.p6 (S : Sep w0 w (a :: b :: c :: d :: e :: f :: rs)) : Sep w0 w (f :: a :: b :: c :: d :: e :: rs) :=
  S.perm ((List.Perm.cons _ ((List.Perm.cons _ ((List.Perm.cons _ ((List.Perm.cons _ (.swap _ _ _)).trans (.swap _ _ _))).trans (.swap _ _ _))).trans (.swap _ _ _))).trans (.swap _ _ _))
theorem Sep.q6 (S : Sep w0 w (a :: b :: c :: d :: e :: f :: rs)) : Sep w0 w (b :: c :: d :: e :: f :: a :: rs) := S.p6.p6.p6.p6.p6
end

theorem Sep.app {w0 w w1 : World} {rs : List Res} {e : TypeId} {z : Nat} {v v' : Value} {n n' : Nat} {xs xs' : List Value} (S : Sep w0 w (Res.row e z v n xs :: rs)) (hA : App e z w v n xs v' w1 n' xs') : Sep w0 w1 (Res.row e z v' n' xs' :: rs) :=
  S.upd1 (r' := Res.row e z v' n' xs') hA.own hA.keeps (fun b hb => hA.moved b hb)
theorem Sep.store {w0 w : World} {rs : List Res} {e : TypeId} {z g n c : Nat} {xs : List Value} (S : Sep w0 w (Res.row e z (.slice (some ⟨g, 0, none⟩) n c) n xs :: rs)) (i : Nat) (u : Value) : Sep w0 (w.setCell ⟨g, i, none⟩ u) (Res.row e z (.slice (some ⟨g, 0, none⟩) n c) n (xs.set i u) :: rs) := by
  have hs := World.ownsRow.stored (show w.ownsRow 0 e z (.slice (some ⟨g, 0, none⟩) n c) n xs from S.head) i u
  refine S.upd1 (r' := Res.row e z (.slice (some ⟨g, 0, none⟩) n c) n (xs.set i u)) hs.1 ?_ (fun b hb => .inl hb)
  exact Keeps.of_grown hs.2 (fun k h => by show Value.ownBlock _ = some k; rw [Value.ownBlock]; simpa using h)
theorem Sep.drop {w0 w : World} {r : Res} {rs : List Res} (S : Sep w0 w (r :: rs)) : Sep w0 w rs := S.tail
theorem Sep.nilRow {w0 w : World} {rs : List Res} (S : Sep w0 w rs) (e : TypeId) (z : Nat) : Sep w0 w (Res.row e z (.slice none 0 0) 0 [] :: rs) :=
  S.add (r := Res.row e z (.slice none 0 0) 0 []) (World.ownsRow_nil _ _ _ _) (Keeps.refl _ w) (fun b hb => by simp [Res.row, Value.ownBlock] at hb)
theorem Sep.newBlk {w0 w : World} {rs : List Res} (S : Sep w0 w rs) (cs : Array Value) (t : TypeId) : Sep w0 (w.alloc (.cells cs t)) (Res.blk w.heap.size cs t :: rs) :=
  S.add (r := Res.blk w.heap.size cs t) (heap_alloc_new w _) ((Keeps.refl _ w).alloc _) (fun _ hb => Nat.le_of_eq hb.symm)
/-- A cell of a block is stored. -/
theorem Sep.blkSet {w0 w : World} {g : Nat} {cs : Array Value} {t : TypeId} {rs : List Res} (S : Sep w0 w (Res.blk g cs t :: rs)) (i : Nat) (u : Value) : Sep w0 (w.setCell ⟨g, i, none⟩ u) (Res.blk g (cs.setIfInBounds i u) t :: rs) :=
  S.upd1 (r' := Res.blk g (cs.setIfInBounds i u) t) (heap_setCell_same w g i cs t u S.head) ((Keeps.refl (fun b => b = g) w).setCell (p := ⟨g, i, none⟩) (fun _ => rfl) _) (fun _ hb => .inl hb)

/-- make([][]int, N). -/
theorem Sep.blkAt {w0 w : World} {rs : List Res} (S : Sep w0 w rs) (cs : Array Value) (t : TypeId) {g : Nat} (hg : w.heap.size = g) : Sep w0 (w.alloc (.cells cs t)) (Res.blk g cs t :: rs) := by subst hg; exact S.newBlk cs t
theorem own_sliceB {w : World} {e : TypeId} {z : Nat} {v : Value} {n : Nat} {xs : List Value} (h : w.ownsRow 0 e z v n xs) : ∃ a c, v = .slice a n c := by
  rcases h.2 with ⟨rfl, rfl⟩ | ⟨g, cap, cur, rfl, rest⟩
  · exact ⟨none, 0, rfl⟩
  · exact ⟨_, cap, rfl⟩

theorem own_atB {w : World} {e : TypeId} {v : Value} {n : Nat} {xs : List Value} (h : w.ownsRow 0 e 1 v n xs) (hn : 0 < n) : ∃ g c, v = .slice (some ⟨g, 0, none⟩) n c ∧ n ≤ c ∧ c ≤ 9223372036854775807 ∧ ∀ i, i < n → w.cell? ⟨g, i, none⟩ = xs[i]? ∧ w.frozen? ⟨g, i, none⟩ = false := by
  rcases h.2 with ⟨_, h0⟩ | ⟨g, cap, cur, rfl, hb, hg, hnc, hcm, hcs, htake⟩
  · omega
  · exact ⟨g, cap, rfl, hnc, by unfold maxLen at hcm; omega, fun i hi => ⟨h.cellAt i (by omega), h.frozenAt i⟩⟩
theorem own_takeB {w : World} {e : TypeId} {g n cap : Nat} {xs : List Value} (h : w.ownsRow 0 e 1 (.slice (some ⟨g, 0, none⟩) n cap) n xs) (m : Nat) (hm : m ≤ n) : w.ownsRow 0 e 1 (.slice (some ⟨g, 0, none⟩) m cap) m (xs.take m) := by
  have hl : xs.length = n := by have := h.1; omega
  rcases h.2 with ⟨h', _⟩ | ⟨g', cap', cur, h', hb, hg, hnc, hcm, hcs, htake⟩
  · cases h'
  · cases h'
    refine ⟨by simp; omega, .inr ⟨g, cap, cur, rfl, hb, hg, by omega, hcm, hcs, ?_⟩⟩
    rw [Nat.mul_one] at htake ⊢
    rw [← htake, List.take_take]; congr 1; omega

theorem addr0 (g j : Nat) : (⟨g, 0, none⟩ : Addr).add j = ⟨g, j, none⟩ := by unfold Addr.add; split <;> simp_all
theorem own_takeS {w : World} {e : TypeId} {z g n cap : Nat} {xs : List Value} (h : w.ownsRow 0 e z (.slice (some ⟨g, 0, none⟩) n cap) n xs) (m : Nat) (hm : m ≤ n) : w.ownsRow 0 e z (.slice (some ⟨g, 0, none⟩) m cap) m (xs.take (m * z)) := by
  have hl : xs.length = n * z := h.1
  have hmz : m * z ≤ n * z := Nat.mul_le_mul_right z hm
  rcases h.2 with ⟨h', _⟩ | ⟨g', cap', cur, h', hb, hg, hnc, hcm, hcs, htake⟩
  · cases h'
  · cases h'
    refine ⟨by simp; omega, .inr ⟨g, cap, cur, rfl, hb, hg, by omega, hcm, hcs, ?_⟩⟩
    rw [← htake, List.take_take]; congr 1; omega
theorem own_capS {w : World} {e : TypeId} {z g n cap : Nat} {xs : List Value} (h : w.ownsRow 0 e z (.slice (some ⟨g, 0, none⟩) n cap) n xs) : n ≤ cap := by
  rcases h.2 with ⟨h', _⟩ | ⟨g', cap', cur, h', hb, hg, hnc, hcm, hcs, htake⟩
  · cases h'
  · cases h'; exact hnc
theorem Sep.p8 {w0 w : World} {a b c d e f g h : Res} {rs : List Res} (S : Sep w0 w (a :: b :: c :: d :: e :: f :: g :: h :: rs)) : Sep w0 w (h :: a :: b :: c :: d :: e :: f :: g :: rs) :=
  S.perm (List.perm_middle (l₁ := [a, b, c, d, e, f, g]) (l₂ := rs))
theorem Sep.p9 {w0 w : World} {a b c d e f g h i : Res} {rs : List Res} (S : Sep w0 w (a :: b :: c :: d :: e :: f :: g :: h :: i :: rs)) : Sep w0 w (i :: a :: b :: c :: d :: e :: f :: g :: h :: rs) :=
  S.perm (List.perm_middle (l₁ := [a, b, c, d, e, f, g, h]) (l₂ := rs))
theorem Sep.p10 {w0 w : World} {a b c d e f g h i j : Res} {rs : List Res} (S : Sep w0 w (a :: b :: c :: d :: e :: f :: g :: h :: i :: j :: rs)) : Sep w0 w (j :: a :: b :: c :: d :: e :: f :: g :: h :: i :: rs) :=
  S.perm (List.perm_middle (l₁ := [a, b, c, d, e, f, g, h, i]) (l₂ := rs))
theorem Sep.p11 {w0 w : World} {a b c d e f g h i j k : Res} {rs : List Res} (S : Sep w0 w (a :: b :: c :: d :: e :: f :: g :: h :: i :: j :: k :: rs)) : Sep w0 w (k :: a :: b :: c :: d :: e :: f :: g :: h :: i :: j :: rs) :=
  S.perm (List.perm_middle (l₁ := [a, b, c, d, e, f, g, h, i, j]) (l₂ := rs))
theorem Sep.p12 {w0 w : World} {a b c d e f g h i j k l : Res} {rs : List Res} (S : Sep w0 w (a :: b :: c :: d :: e :: f :: g :: h :: i :: j :: k :: l :: rs)) : Sep w0 w (l :: a :: b :: c :: d :: e :: f :: g :: h :: i :: j :: k :: rs) :=
  S.perm (List.perm_middle (l₁ := [a, b, c, d, e, f, g, h, i, j, k]) (l₂ := rs))
theorem Sep.p13 {w0 w : World} {a b c d e f g h i j k l m : Res} {rs : List Res} (S : Sep w0 w (a :: b :: c :: d :: e :: f :: g :: h :: i :: j :: k :: l :: m :: rs)) : Sep w0 w (m :: a :: b :: c :: d :: e :: f :: g :: h :: i :: j :: k :: l :: rs) :=
  S.perm (List.perm_middle (l₁ := [a, b, c, d, e, f, g, h, i, j, k, l]) (l₂ := rs))
theorem Sep.q7 {w0 w : World} {a b c d e f g : Res} {rs : List Res} (S : Sep w0 w (a :: b :: c :: d :: e :: f :: g :: rs)) : Sep w0 w (b :: c :: d :: e :: f :: g :: a :: rs) :=
  S.perm (List.perm_middle (l₁ := [b, c, d, e, f, g]) (l₂ := rs)).symm
theorem Sep.q8 {w0 w : World} {a b c d e f g h : Res} {rs : List Res} (S : Sep w0 w (a :: b :: c :: d :: e :: f :: g :: h :: rs)) : Sep w0 w (b :: c :: d :: e :: f :: g :: h :: a :: rs) :=
  S.perm (List.perm_middle (l₁ := [b, c, d, e, f, g, h]) (l₂ := rs)).symm
theorem Sep.q9 {w0 w : World} {a b c d e f g h i : Res} {rs : List Res} (S : Sep w0 w (a :: b :: c :: d :: e :: f :: g :: h :: i :: rs)) : Sep w0 w (b :: c :: d :: e :: f :: g :: h :: i :: a :: rs) :=
  S.perm (List.perm_middle (l₁ := [b, c, d, e, f, g, h, i]) (l₂ := rs)).symm
theorem Sep.q10 {w0 w : World} {a b c d e f g h i j : Res} {rs : List Res} (S : Sep w0 w (a :: b :: c :: d :: e :: f :: g :: h :: i :: j :: rs)) : Sep w0 w (b :: c :: d :: e :: f :: g :: h :: i :: j :: a :: rs) :=
  S.perm (List.perm_middle (l₁ := [b, c, d, e, f, g, h, i, j]) (l₂ := rs)).symm
theorem Sep.q11 {w0 w : World} {a b c d e f g h i j k : Res} {rs : List Res} (S : Sep w0 w (a :: b :: c :: d :: e :: f :: g :: h :: i :: j :: k :: rs)) : Sep w0 w (b :: c :: d :: e :: f :: g :: h :: i :: j :: k :: a :: rs) :=
  S.perm (List.perm_middle (l₁ := [b, c, d, e, f, g, h, i, j, k]) (l₂ := rs)).symm
theorem Sep.q12 {w0 w : World} {a b c d e f g h i j k l : Res} {rs : List Res} (S : Sep w0 w (a :: b :: c :: d :: e :: f :: g :: h :: i :: j :: k :: l :: rs)) : Sep w0 w (b :: c :: d :: e :: f :: g :: h :: i :: j :: k :: l :: a :: rs) :=
  S.perm (List.perm_middle (l₁ := [b, c, d, e, f, g, h, i, j, k, l]) (l₂ := rs)).symm
theorem Sep.q13 {w0 w : World} {a b c d e f g h i j k l m : Res} {rs : List Res} (S : Sep w0 w (a :: b :: c :: d :: e :: f :: g :: h :: i :: j :: k :: l :: m :: rs)) : Sep w0 w (b :: c :: d :: e :: f :: g :: h :: i :: j :: k :: l :: m :: a :: rs) :=
  S.perm (List.perm_middle (l₁ := [b, c, d, e, f, g, h, i, j, k, l, m]) (l₂ := rs)).symm

theorem Sep.pp7 {w0 w : World} {a b c d e f g : Res} {rs : List Res} (S : Sep w0 w (a :: b :: c :: d :: e :: f :: g :: rs)) : Sep w0 w (g :: a :: b :: c :: d :: e :: f :: rs) :=
  S.perm (List.perm_middle (l₁ := [a, b, c, d, e, f]) (l₂ := rs))
theorem own_cell {w : World} {e : TypeId} {z g n c : Nat} {xs : List Value} (h : w.ownsRow 0 e z (.slice (some ⟨g, 0, none⟩) n c) n xs) {j : Nat} {u : Value} (hu : xs[j]? = some u) : w.cell? ⟨g, j, none⟩ = some u := by
  have := h.cells (g := g) rfl j u hu
  rwa [addr0] at this

theorem flat_rep (l : List Value) : ∀ (n j : Nat), ((List.replicate n l).flatten)[j]? = if j < n * l.length then l[j % l.length]? else none
  | 0, j => by simp
  | n + 1, j => by
    rw [List.replicate_succ, List.flatten_cons]
    by_cases h : j < l.length
    · rw [List.getElem?_append_left h, Nat.mod_eq_of_lt h, if_pos (by rw [Nat.succ_mul]; omega)]
    · rw [List.getElem?_append_right (by omega), flat_rep l n (j - l.length), ← Nat.mod_eq_sub_mod (by omega)]
      by_cases h2 : j < (n + 1) * l.length
      · rw [if_pos h2, if_pos (by rw [Nat.succ_mul] at h2; omega)]
      · rw [if_neg h2, if_neg (by rw [Nat.succ_mul] at h2; omega)]
theorem made_flat (z : Array Value) (n : Nat) (hz : 0 < z.size) : (madeCells z (n * z.size)).toList = (List.replicate n z.toList).flatten := by
  apply List.ext_getElem?
  intro j
  rw [flat_rep]
  simp only [Array.length_toList]
  have hm : j % z.size < z.size := Nat.mod_lt _ hz
  by_cases hj : j < n * z.size
  · rw [if_pos hj]
    simp [madeCells, hj, hm]
  · rw [if_neg hj]
    simp [madeCells]; omega
theorem make_run {P : Program} (t e : TypeId) (z : Value) (cs : Array Value) (size bytes : Nat) (ht : P.underlying t = some (.slice e)) (hinfo : (P.info? e).map (fun i => (i.zero, i.size, i.bytes)) = some (some z, size, bytes)) (hz : z.cells = cs) (n : Nat) (hb : bytes * n ≤ 281474976710656) (hn : n ≤ 1000000) (w : World) :
    (Instr.makeSlice t (.int .i64 (n : Int)) (.int .i64 (n : Int))).run P w = .ok (.slice (some ⟨w.heap.size, 0, none⟩) n n) (w.alloc (.cells (madeCells cs (n * size)) e)) := by
  obtain ⟨i, hi, h1, h2, h3⟩ := info_parts hinfo
  have hb' : (i.bytes : Int) * (n : Int) ≤ 281474976710656 := by
    rw [h3]
    have h : ((bytes * n : Nat) : Int) ≤ 281474976710656 := by omega
    rwa [Int.natCast_mul] at h
  have hr := run_make (P := P) w t e i z ht hi h1 .i64 .i64 n n (by omega) (Int.le_refl _) hb' (by omega)
  simp only [Int.toNat_natCast] at hr
  rw [hr, hz, h2]
theorem Sep.madeAt {w0 w : World} {rs : List Res} (S : Sep w0 w rs) (e : TypeId) (cs : Array Value) (z n : Nat) (hs : cs.size = n * z) (hn : n ≤ 1000000) {g : Nat} (hg : w.heap.size = g) : Sep w0 (w.alloc (.cells cs e)) (Res.row e z (.slice (some ⟨g, 0, none⟩) n n) n cs.toList :: rs) := by
  subst hg
  refine S.add (r := Res.row e z (.slice (some ⟨w.heap.size, 0, none⟩) n n) n cs.toList) ⟨by simp [hs], .inr ⟨w.heap.size, n, cs, rfl, Nat.zero_le _, heap_alloc_new w _, Nat.le_refl _, by unfold maxLen; omega, hs, by rw [List.take_of_length_le (by simp [hs])]⟩⟩ ((Keeps.refl _ w).alloc _) (fun b hb => ?_)
  simp [Res.row, Value.ownBlock] at hb; omega
theorem Keeps.st {w w' : World} (hk : Keeps (fun _ => False) w w') {p : Addr} {v : Value} (h : w.cell? p = some v) : w'.cell? p = some v := (hk.cell (World.block_lt_of_cell? w _ h) (fun h => h)).trans h
/-- The others stand while the first turns. -/
theorem Sep.others {w0 w w1 : World} {r : Res} {rs : List Res} (S : Sep w0 w (r :: rs)) (k : Keeps r.F w w1) : Sep w0 w1 rs := by
  have hd := List.pairwise_cons.1 S.dis
  refine ⟨S.base.trans k (fun b hb hF => by have := S.new r (by simp) b hF; omega), fun s hs => ?_, hd.2, fun s hs => S.new s (by simp [hs])⟩
  exact s.keep w w1 _ (S.all s (by simp [hs])) k (fun b hb hr => hd.1 s hs b hr hb)
def strs (l : List ByteArray) : List Value := l.map Value.string
theorem strs_len (l : List ByteArray) : (strs l).length = l.length := by simp [strs]
theorem strs_append (a b : List ByteArray) : strs (a ++ b) = strs a ++ strs b := by simp [strs]
theorem bytes_ne {a b : ByteArray} (h : a ≠ b) : (a.toList == b.toList) = false := by
  rw [ByteArray.toList_eq, ByteArray.toList_eq]
  refine beq_eq_false_iff_ne.2 (fun e => h ?_)
  cases a; cases b
  congr
  exact Array.ext' e

end Go.Proofs.Ybulkcdkc
