import Derived.Test.YbulkcdaySep
import Derived.Test.YbulkcdayFillR
import Derived.Test.YbulkcdayFillM
namespace Go.Proofs.Ybulkcday
open Go.RowKit

/-- In order: the keys of each child, then the parent's. -/
def inord {α : Type} : List (List α) → List α → List α
  | [], _ => []
  | c :: cs, [] => c ++ inord cs []
  | c :: cs, k :: ks => c ++ k :: inord cs ks
def tailI {α : Type} (B : List (List α)) : List α → List α
  | [] => inord B []
  | p :: ps => p :: inord B ps
theorem inord_cons {α : Type} (c : List α) (B : List (List α)) (ps : List α) : inord (c :: B) ps = c ++ tailI B ps := by
  cases ps <;> rfl
theorem inord_append {α : Type} : ∀ (A R : List (List α)) (p1 p2 : List α), A.length = p1.length → inord (A ++ R) (p1 ++ p2) = inord A p1 ++ inord R p2
  | [], R, p1, p2, h => by
    have : p1 = [] := List.eq_nil_of_length_eq_zero h.symm
    subst this; rfl
  | c :: A, R, [], p2, h => by simp at h
  | c :: A, R, k :: p1, p2, h => by
    simp only [List.cons_append, inord]
    rw [inord_append A R p1 p2 (by simpa using h)]
    simp
/-- Two neighbours and the key between them. -/
theorem inord_two {α : Type} (A B : List (List α)) (x y x' y' : List α) (p1 p2 : List α) (k k' : α) (hA : A.length = p1.length) (h : x' ++ k' :: y' = x ++ k :: y) :
    inord (A ++ x' :: y' :: B) (p1 ++ k' :: p2) = inord (A ++ x :: y :: B) (p1 ++ k :: p2) := by
  rw [inord_append _ _ _ _ hA, inord_append _ _ _ _ hA]
  congr 1
  show x' ++ k' :: inord (y' :: B) p2 = x ++ k :: inord (y :: B) p2
  rw [inord_cons, inord_cons, ← List.cons_append, ← List.cons_append, ← List.append_assoc, ← List.append_assoc, h]
theorem inord_one {α : Type} (A B : List (List α)) (x y : List α) (p1 p2 : List α) (k : α) (hA : A.length = p1.length) :
    inord (A ++ (x ++ k :: y) :: B) (p1 ++ p2) = inord (A ++ x :: y :: B) (p1 ++ k :: p2) := by
  rw [inord_append _ _ _ _ hA, inord_append _ _ _ _ hA]
  congr 1
  show inord ((x ++ k :: y) :: B) p2 = x ++ k :: inord (y :: B) p2
  rw [inord_cons, inord_cons]; simp

theorem split_two {α : Type} (l : List α) (a : Nat) (h : a + 1 < l.length) : l = l.take a ++ l[a] :: l[a + 1] :: l.drop (a + 2) := by
  conv => lhs; rw [← List.take_append_drop a l]
  rw [List.drop_eq_getElem_cons (by omega), List.drop_eq_getElem_cons h]
theorem split_one {α : Type} (l : List α) (a : Nat) (h : a < l.length) : l = l.take a ++ l[a] :: l.drop (a + 1) := by
  conv => lhs; rw [← List.take_append_drop a l]
  rw [List.drop_eq_getElem_cons h]

/-- The case table. -/
def table (c : List Nat) (i : Nat) : Nat × List Nat :=
  if 31 < c.getD i 0 then (i, c)
  else if 0 < i ∧ 31 < c.getD (i - 1) 0 then (i, (c.set (i - 1) (c.getD (i - 1) 0 - 1)).set i (c.getD i 0 + 1))
  else if i + 1 < c.length ∧ 31 < c.getD (i + 1) 0 then (i, (c.set (i + 1) (c.getD (i + 1) 0 - 1)).set i (c.getD i 0 + 1))
  else if i + 1 < c.length then (i, (c.set i (c.getD i 0 + 1 + c.getD (i + 1) 0)).take (i + 1) ++ (c.set i (c.getD i 0 + 1 + c.getD (i + 1) 0)).drop (i + 2))
  else (i - 1, (c.set (i - 1) (c.getD (i - 1) 0 + 1 + c.getD i 0)).take i ++ (c.set (i - 1) (c.getD (i - 1) 0 + 1 + c.getD i 0)).drop (i + 1))

/-- A parent and its children, by their lists. -/
structure Tree (inn : Bool) (P : K) (kids : List K) : Prop where
  gs : P.gs = kids.map K.ptr
  len : P.ks.length + 1 = kids.length
  few : kids.length ≤ 100
  cnt : ∀ k ∈ kids, 1 ≤ k.ks.length ∧ k.ks.length ≤ 64
  pst : ∀ k ∈ P.ks, IsStr k
  kst : ∀ c ∈ kids, ∀ k ∈ c.ks, IsStr k
  lf : ∀ c ∈ kids, Lf inn c
def allKeys (P : K) (kids : List K) : List (List Value) := inord (kids.map K.ks) P.ks
def allKids (kids : List K) : List Value := (kids.map K.gs).flatten

theorem Sep.tri {w0 w : World} {P X Y : K} {rs : List Res} (h : Sep w0 w (Res.k P :: Res.k X :: Res.k Y :: rs)) : Tri w w P X Y P X Y := by
  have h1 := List.pairwise_cons.1 h.dis
  have h2 := List.pairwise_cons.1 h1.2
  exact Tri.start (h.all (Res.k P) (by simp)) (h.all (Res.k X) (by simp)) (h.all (Res.k Y) (by simp)) (h1.1 (Res.k X) (by simp)) (h1.1 (Res.k Y) (by simp)) (h2.1 (Res.k Y) (by simp))
theorem Sep.of_tri {w0 w w' : World} {P X Y P' X' Y' : K} {rs : List Res} (h : Sep w0 w (Res.k P :: Res.k X :: Res.k Y :: rs)) (T : Tri w w' P X Y P' X' Y') : Sep w0 w' (Res.k P' :: Res.k X' :: Res.k Y' :: rs) := by
  have h1 := List.pairwise_cons.1 h.dis
  have h2 := List.pairwise_cons.1 h1.2
  have h3 := List.pairwise_cons.1 h2.2
  have old : ∀ s ∈ rs, ∀ b, (P.foot b ∨ X.foot b ∨ Y.foot b) → ¬ s.F b := fun s hs b hb => by
    rcases hb with hb | hb | hb
    · exact h1.1 s (by simp [hs]) b hb
    · exact h2.1 s (by simp [hs]) b hb
    · exact h3.1 s hs b hb
  have nw : ∀ s ∈ rs, ∀ b, (P'.foot b ∨ X'.foot b ∨ Y'.foot b) → ¬ s.F b := fun s hs b hb hs' => by
    rcases T.grows b hb with e | e
    · exact old s hs b e hs'
    · have := s.lt w b (h.all s (by simp [hs])) hs'; omega
  have nb : ∀ b, (P.foot b ∨ X.foot b ∨ Y.foot b) → w0.heap.size ≤ b := fun b hb => by
    rcases hb with hb | hb | hb
    · exact h.new (Res.k P) (by simp) b hb
    · exact h.new (Res.k X) (by simp) b hb
    · exact h.new (Res.k Y) (by simp) b hb
  have nb' : ∀ b, (P'.foot b ∨ X'.foot b ∨ Y'.foot b) → w0.heap.size ≤ b := fun b hb => by
    rcases T.grows b hb with e | e
    · exact nb b e
    · have := h.base.size; omega
  refine ⟨h.base.trans T.keeps (fun b hb hF => by have := nb b hF; omega), ?_, ?_, ?_⟩
  · intro s hs
    simp only [List.mem_cons] at hs
    rcases hs with rfl | rfl | rfl | hs
    · exact T.a
    · exact T.b
    · exact T.c
    · exact s.keep w w' _ (h.all s (by simp [hs])) T.keeps (fun b hb hr => old s hs b hr hb)
  · refine List.pairwise_cons.2 ⟨fun s hs b hb => ?_, List.pairwise_cons.2 ⟨fun s hs b hb => ?_, List.pairwise_cons.2 ⟨fun s hs b hb => ?_, h3.2⟩⟩⟩
    · simp only [List.mem_cons] at hs
      rcases hs with rfl | rfl | hs
      · exact T.ab b hb
      · exact T.ac b hb
      · exact nw s hs b (.inl hb)
    · simp only [List.mem_cons] at hs
      rcases hs with rfl | hs
      · exact T.bc b hb
      · exact nw s hs b (.inr (.inl hb))
    · exact nw s hs b (.inr (.inr hb))
  · intro s hs b hb
    simp only [List.mem_cons] at hs
    rcases hs with rfl | rfl | rfl | hs
    · exact nb' b (.inl hb)
    · exact nb' b (.inr (.inl hb))
    · exact nb' b (.inr (.inr hb))
    · exact h.new s (by simp [hs]) b hb
theorem Sep.of_merged {w0 w w' : World} {P X Y P' X' : K} {rs : List Res} {a : Nat} {k : List Value} (h : Sep w0 w (Res.k P :: Res.k X :: Res.k Y :: rs)) (M : Merged w w' P X Y P' X' a k) : Sep w0 w' (Res.k P' :: Res.k X' :: rs) := by
  have h1 := List.pairwise_cons.1 h.dis
  have h2 := List.pairwise_cons.1 h1.2
  have h3 := List.pairwise_cons.1 h2.2
  have grows : ∀ b, (P'.foot b ∨ X'.foot b) → (P.foot b ∨ X.foot b) ∨ w.heap.size ≤ b := fun b hb => by
    rcases hb with hb | hb
    · rcases M.gp b hb with e | e
      · exact .inl (.inl e)
      · exact .inr e
    · rcases M.gx b hb with e | e
      · exact .inl (.inr e)
      · exact .inr e
  have old : ∀ s ∈ rs, ∀ b, (P.foot b ∨ X.foot b) → ¬ s.F b := fun s hs b hb => by
    rcases hb with hb | hb
    · exact h1.1 s (by simp [hs]) b hb
    · exact h2.1 s (by simp [hs]) b hb
  have nw : ∀ s ∈ rs, ∀ b, (P'.foot b ∨ X'.foot b) → ¬ s.F b := fun s hs b hb hs' => by
    rcases grows b hb with e | e
    · exact old s hs b e hs'
    · have := s.lt w b (h.all s (by simp [hs])) hs'; omega
  have nb : ∀ b, (P.foot b ∨ X.foot b) → w0.heap.size ≤ b := fun b hb => by
    rcases hb with hb | hb
    · exact h.new (Res.k P) (by simp) b hb
    · exact h.new (Res.k X) (by simp) b hb
  have nb' : ∀ b, (P'.foot b ∨ X'.foot b) → w0.heap.size ≤ b := fun b hb => by
    rcases grows b hb with e | e
    · exact nb b e
    · have := h.base.size; omega
  refine ⟨h.base.trans M.keeps (fun b hb hF => by have := nb b hF; omega), ?_, ?_, ?_⟩
  · intro s hs
    simp only [List.mem_cons] at hs
    rcases hs with rfl | rfl | hs
    · exact M.p
    · exact M.x
    · exact s.keep w w' _ (h.all s (by simp [hs])) M.keeps (fun b hb hr => old s hs b hr hb)
  · refine List.pairwise_cons.2 ⟨fun s hs b hb => ?_, List.pairwise_cons.2 ⟨fun s hs b hb => ?_, h3.2⟩⟩
    · simp only [List.mem_cons] at hs
      rcases hs with rfl | hs
      · exact M.px b hb
      · exact nw s hs b (.inl hb)
    · exact nw s hs b (.inr hb)
  · intro s hs b hb
    simp only [List.mem_cons] at hs
    rcases hs with rfl | rfl | hs
    · exact nb' b (.inl hb)
    · exact nb' b (.inr hb)
    · exact h.new s (by simp [hs]) b hb
end Go.Proofs.Ybulkcday
