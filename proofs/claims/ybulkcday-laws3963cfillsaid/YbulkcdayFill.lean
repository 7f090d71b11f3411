import Derived.Test.YbulkcdayTree
namespace Go.Proofs.Ybulkcday
open Go.RowKit

def counts (kids : List K) : List Nat := kids.map fun k => k.ks.length

theorem perm_kids {α β : Type} (f : α → β) (A B : List α) (X Y : α) (rs : List β) : ((A ++ X :: Y :: B).map f ++ rs).Perm (f X :: f Y :: (A.map f ++ (B.map f ++ rs))) := by
  have : (A ++ X :: Y :: B).map f ++ rs = A.map f ++ f X :: f Y :: (B.map f ++ rs) := by simp
  rw [this]
  exact List.perm_middle.trans (List.Perm.cons _ List.perm_middle)
theorem perm_kid {α β : Type} (f : α → β) (A B : List α) (X : α) (rs : List β) : ((A ++ X :: B).map f ++ rs).Perm (f X :: (A.map f ++ (B.map f ++ rs))) := by
  have : (A ++ X :: B).map f ++ rs = A.map f ++ f X :: (B.map f ++ rs) := by simp
  rw [this]
  exact List.perm_middle

/-- What fill leaves, by the lists. -/
structure Filled (w0 w' : World) (inn : Bool) (P : K) (kids : List K) (rs : List Res) (exp : List Nat) (P' : K) (kids' : List K) : Prop where
  tree : Tree inn P' kids'
  sep : Sep w0 w' (Res.k P' :: (kids'.map Res.k ++ rs))
  p : P'.p = P.p
  keys : allKeys P' kids' = allKeys P kids
  gs : allKids kids' = allKids kids
  cnt : counts kids' = exp

theorem set_split {α : Type} (A B : List α) (x y x' y' : α) : ((A ++ x :: y :: B).set A.length x').set (A.length + 1) y' = A ++ x' :: y' :: B := by
  rw [List.set_append, if_neg (by omega), Nat.sub_self, List.set_cons_zero, List.set_append, if_neg (by omega), show A.length + 1 - A.length = 1 by omega]
  rfl

theorem shift_tree {w0 w w' : World} {inn : Bool} {P X Y P' X' Y' : K} {A B : List K} {rs : List Res} {p1 p2 : List (List Value)} {k k' : List Value}
    (T : Tree inn P (A ++ X :: Y :: B)) (S : Sep w0 w (Res.k P :: ((A ++ X :: Y :: B).map Res.k ++ rs))) (hp : P.ks = p1 ++ k :: p2) (hA : A.length = p1.length)
    (Tr : Tri w w' P X Y P' X' Y') (hg : P'.gs = P.gs) (hk : P'.ks = P.ks.set A.length k') (hcat : X'.ks ++ k' :: Y'.ks = X.ks ++ k :: Y.ks) (hgs : X'.gs ++ Y'.gs = X.gs ++ Y.gs) (fX : Lf inn X') (fY : Lf inn Y')
    (hX : 1 ≤ X'.ks.length ∧ X'.ks.length ≤ 64) (hY : 1 ≤ Y'.ks.length ∧ Y'.ks.length ≤ 64) :
    Filled w0 w' inn P (A ++ X :: Y :: B) rs (((counts (A ++ X :: Y :: B)).set A.length X'.ks.length).set (A.length + 1) Y'.ks.length) P' (A ++ X' :: Y' :: B) := by
  have hset : P'.ks = p1 ++ k' :: p2 := by rw [hk, hp, List.set_append, if_neg (by omega), hA, Nat.sub_self, List.set_cons_zero]
  have S1 := S.perm (List.Perm.cons _ (perm_kids Res.k A B X Y rs))
  have S2 := (S1.of_tri Tr).perm (List.Perm.cons _ (perm_kids Res.k A B X' Y' rs).symm)
  have hstr : ∀ q ∈ X'.ks ++ k' :: Y'.ks, IsStr q := by
    rw [hcat]
    intro q hq
    simp only [List.mem_append, List.mem_cons] at hq
    rcases hq with hq | rfl | hq
    · exact T.kst X (by simp) q hq
    · exact T.pst q (by rw [hp]; simp)
    · exact T.kst Y (by simp) q hq
  have hkid : ∀ c ∈ A ++ X' :: Y' :: B, c = X' ∨ c = Y' ∨ c ∈ A ++ X :: Y :: B := by
    intro c hc
    simp only [List.mem_append, List.mem_cons] at hc ⊢
    rcases hc with h | h | h | h
    · exact .inr (.inr (.inl h))
    · exact .inl h
    · exact .inr (.inl h)
    · exact .inr (.inr (.inr (.inr (.inr h))))
  refine ⟨⟨?_, ?_, ?_, ?_, ?_, ?_, ?_⟩, S2, Tr.pa, ?_, ?_, ?_⟩
  · rw [hg, T.gs]
    simp only [List.map_append, List.map_cons]
    have e1 : X'.ptr = X.ptr := by unfold K.ptr; rw [Tr.pb]
    have e2 : Y'.ptr = Y.ptr := by unfold K.ptr; rw [Tr.pc]
    rw [e1, e2]
  · have := T.len; rw [hk, List.length_set]; simpa using this
  · have := T.few; simpa using this
  · intro c hc
    rcases hkid c hc with rfl | rfl | h
    · exact hX
    · exact hY
    · exact T.cnt c h
  · intro q hq
    rw [hset] at hq
    simp only [List.mem_append, List.mem_cons] at hq
    rcases hq with hq | rfl | hq
    · exact T.pst q (by rw [hp]; simp [hq])
    · exact hstr q (by simp)
    · exact T.pst q (by rw [hp]; simp [hq])
  · intro c hc q hq
    rcases hkid c hc with rfl | rfl | h
    · exact hstr q (by simp [hq])
    · exact hstr q (by simp [hq])
    · exact T.kst c h q hq
  · intro c hc
    rcases hkid c hc with rfl | rfl | h
    · exact fX
    · exact fY
    · exact T.lf c h
  · unfold allKeys
    rw [hset, hp]
    simp only [List.map_append, List.map_cons]
    exact inord_two _ _ _ _ _ _ _ _ _ _ (by simpa using hA) hcat
  · unfold allKids
    simp only [List.map_append, List.map_cons, List.flatten_append, List.flatten_cons]
    rw [← List.append_assoc X'.gs, hgs, List.append_assoc]
  · unfold counts
    simp only [List.map_append, List.map_cons]
    have := set_split (A.map fun k => k.ks.length) (B.map fun k => k.ks.length) X.ks.length Y.ks.length X'.ks.length Y'.ks.length
    rw [List.length_map] at this
    rw [this]

theorem merge_tree {w0 w w' : World} {inn : Bool} {P X Y P' X' : K} {A B : List K} {rs : List Res} {p1 p2 : List (List Value)} {k : List Value}
    (T : Tree inn P (A ++ X :: Y :: B)) (S : Sep w0 w (Res.k P :: ((A ++ X :: Y :: B).map Res.k ++ rs))) (hp : P.ks = p1 ++ k :: p2) (hA : A.length = p1.length)
    (M : Merged w w' P X Y P' X' A.length k) (hX : X.ks.length + 1 + Y.ks.length ≤ 64) :
    Filled w0 w' inn P (A ++ X :: Y :: B) rs (((counts (A ++ X :: Y :: B)).set A.length (X.ks.length + 1 + Y.ks.length)).take (A.length + 1) ++ ((counts (A ++ X :: Y :: B)).set A.length (X.ks.length + 1 + Y.ks.length)).drop (A.length + 2)) P' (A ++ X' :: B) := by
  have hset : P'.ks = p1 ++ p2 := by
    rw [M.pk, hp, List.take_left' (by omega), hA]
    congr 1
    rw [List.drop_append, List.drop_of_length_le (by omega), show p1.length + 1 - p1.length = 1 by omega]; rfl
  have S1 := S.perm (List.Perm.cons _ (perm_kids Res.k A B X Y rs))
  have S2 := (S1.of_merged M).perm (List.Perm.cons _ (perm_kid Res.k A B X' rs).symm)
  have hkid : ∀ c ∈ A ++ X' :: B, c = X' ∨ c ∈ A ++ X :: Y :: B := by
    intro c hc
    simp only [List.mem_append, List.mem_cons] at hc ⊢
    rcases hc with h | h | h
    · exact .inr (.inl h)
    · exact .inl h
    · exact .inr (.inr (.inr (.inr h)))
  have hXl : X'.ks.length = X.ks.length + 1 + Y.ks.length := by rw [M.xk]; simp; omega
  refine ⟨⟨?_, ?_, ?_, ?_, ?_, ?_, ?_⟩, S2, M.pp, ?_, ?_, ?_⟩
  · rw [M.pg, T.gs]
    have e1 : X'.ptr = X.ptr := by unfold K.ptr; rw [M.xp]
    simp only [List.map_append, List.map_cons, e1]
    rw [List.take_append, List.drop_append]
    simp only [List.length_map]
    rw [List.take_of_length_le (by simp), List.drop_of_length_le (by simp), show A.length + 1 - A.length = 1 by omega, show A.length + 2 - A.length = 2 by omega]
    simp
  · have := T.len; rw [hset]; rw [hp] at this; simp at this ⊢; omega
  · have := T.few; simp at this ⊢; omega
  · intro c hc
    rcases hkid c hc with rfl | h
    · omega
    · exact T.cnt c h
  · intro q hq
    rw [hset] at hq
    exact T.pst q (by rw [hp]; simp only [List.mem_append, List.mem_cons] at hq ⊢; rcases hq with h | h; exact .inl h; exact .inr (.inr h))
  · intro c hc q hq
    rcases hkid c hc with rfl | h
    · rw [M.xk] at hq
      simp only [List.mem_append, List.mem_cons] at hq
      rcases hq with hq | rfl | hq
      · exact T.kst X (by simp) q hq
      · exact T.pst q (by rw [hp]; simp)
      · exact T.kst Y (by simp) q hq
    · exact T.kst c h q hq
  · intro c hc
    rcases hkid c hc with rfl | h
    · have f1 := T.lf X (by simp)
      have f2 := T.lf Y (by simp)
      refine ⟨fun e => ⟨M.xv (f1.1 e).1 (f2.1 e).2, by rw [M.xg, (f1.1 e).2, (f2.1 e).2]; rfl⟩, fun e => ?_⟩
      rw [M.xg, List.length_append, f1.2 e, f2.2 e, hXl]; omega
    · exact T.lf c h
  · unfold allKeys
    rw [hset, hp]
    simp only [List.map_append, List.map_cons]
    rw [M.xk]
    exact inord_one _ _ _ _ _ _ _ (by simpa using hA)
  · unfold allKids
    simp only [List.map_append, List.map_cons, List.flatten_append, List.flatten_cons]
    rw [M.xg, List.append_assoc]
  · unfold counts
    simp only [List.map_append, List.map_cons]
    rw [List.set_append, if_neg (by simp)]
    simp only [List.length_map, Nat.sub_self, List.set_cons_zero]
    rw [List.take_append, List.drop_append]
    simp only [List.length_map]
    rw [List.take_of_length_le (by simp), List.drop_of_length_le (by simp), show A.length + 1 - A.length = 1 by omega, show A.length + 2 - A.length = 2 by omega, hXl]
    simp
end Go.Proofs.Ybulkcday
