import Derived.Test.YbulkcdaySt
namespace Go.Proofs.Ybulkcday
open Go.RowKit

theorem set_rep {α : Type} (A : List α) (n m : Nat) (z u : α) (hA : A.length = m) (hm : m < n) : (A ++ List.replicate (n - m) z).set m u = (A ++ [u]) ++ List.replicate (n - (m + 1)) z := by
  subst hA
  rw [show n - A.length = (n - (A.length + 1)) + 1 by omega, List.replicate_succ, List.set_append, if_neg (by omega), Nat.sub_self, List.set_cons_zero]; simp
theorem ivals_append (a b : List Nat) : ivals (a ++ b) = ivals a ++ ivals b := by simp [ivals]

/-- A node that is built, as a node. -/
theorem Sep.built {w0 w : World} {p : Nat} {vt ve vk : Value} {ks : List (List Value)} {G : List Value} {rs : List Res} (S : Sep w0 w (Res.w p vt ve vk ks.flatten (ivals (endsF 0 ks)) G :: rs)) (h0 : 0 < ks.length) (hp : ∀ k ∈ ks, IsStr k ∧ 0 < k.length ∧ k.length ≤ 100) (hf : ks.length ≤ 10000) (hG : ∀ u ∈ G, ∃ a, u = Value.pointer a) :
    ∃ gt ct ge ce, Sep w0 w (Res.k (K.mk p gt ct ge ce vk ks G) :: rs) := by
  obtain ⟨gt, ct, ge, ce, hok, hfoot⟩ := Rw.done S.head h0 (fun k hk => (hp k hk).1) (fun k hk => (hp k hk).2) hf hG
  exact ⟨gt, ct, ge, ce, S.upd1 (r' := Res.k (K.mk p gt ct ge ce vk ks G)) hok (Keeps.refl _ _) (fun b hb => .inl ((hfoot b).1 hb))⟩

/-- The next round's state. -/
theorem base_next {w0 wr wc : World} {inn : Bool} {n m pp gc gn : Nat} {kids : List K} {pks pks' : List (List Value)} {vt ve vt' ve' vO0 vG0 vO vG : Value} {kc : K} (B : Base w0 wr inn n m pp gc gn kids pks vt ve vO0 vG0) (hm : m < n)
    (S : Sep w0 wc (Res.row 9 vO (oks (inord ((kids ++ [kc]).map K.ks) pks')) :: Res.row 24 vG (allKids kids ++ kc.gs) :: Res.w pp vt' ve' (.slice none 0 0) pks'.flatten (ivals (endsF 0 pks')) [] :: Res.row 24 (.slice (some ⟨gc, 0, none⟩) n n) ((kids.map K.ptr ++ List.replicate (n - m) (Value.pointer none)).set m kc.ptr) :: Res.row 3 (.slice (some ⟨gn, 0, none⟩) n n) ((ivals (counts kids) ++ List.replicate (n - m) (Value.int .i64 0)).set m (.int .i64 (kc.ks.length : Int))) :: Res.k kc :: kids.map Res.k))
    (hpl : pks'.length = min (m + 1) (n - 1)) (hps : ∀ k ∈ pks', IsStr k ∧ 0 < k.length ∧ k.length ≤ 100) (hkc : ∀ k ∈ kc.ks, IsStr k) (hcn : 29 ≤ kc.ks.length ∧ kc.ks.length ≤ 33) (hlf : Lf inn kc) (hptr : ∀ u ∈ kc.gs, ∃ a, u = Value.pointer (some a)) :
    Base w0 wc inn n (m + 1) pp gc gn (kids ++ [kc]) pks' vt' ve' vO vG := by
  have hkl := B.kl
  have hak : allKids (kids ++ [kc]) = allKids kids ++ kc.gs := by unfold allKids; simp
  refine ⟨?_, by simp [hkl], hpl, hps, ?_, ?_, ?_, ?_⟩
  · rw [hak]
    rw [set_rep _ n m _ _ (by simp [hkl]) hm, set_rep _ n m _ _ (by simp [ivals, counts, hkl]) hm] at S
    have e1 : kids.map K.ptr ++ [kc.ptr] = (kids ++ [kc]).map K.ptr := by simp
    have e2 : ivals (counts kids) ++ [.int .i64 (kc.ks.length : Int)] = ivals (counts (kids ++ [kc])) := by simp [ivals, counts]
    rw [e1, e2] at S
    refine S.perm (List.Perm.cons _ (List.Perm.cons _ (List.Perm.cons _ (List.Perm.cons _ (List.Perm.cons _ ?_)))))
    rw [List.map_append]
    exact (List.perm_append_comm (l₁ := [Res.k kc]) (l₂ := kids.map Res.k))
  · intro c hc
    rcases List.mem_append.1 hc with h | h
    · exact B.kst c h
    · simp at h; subst h; exact hkc
  · intro c hc
    rcases List.mem_append.1 hc with h | h
    · exact B.cnt c h
    · simp at h; subst h; exact hcn
  · intro c hc
    rcases List.mem_append.1 hc with h | h
    · exact B.lf c h
    · simp at h; subst h; exact hlf
  · intro u hu
    rw [hak] at hu
    rcases List.mem_append.1 hu with h | h
    · exact B.ptr u h
    · exact hptr u h
theorem inord_next (A : List (List (List Value))) (c : List (List Value)) (p : List (List Value)) (k : List Value) (h : A.length = p.length) : inord (A ++ [c]) (p ++ [k]) = inord A p ++ (c ++ [k]) := by
  rw [inord_append _ _ _ _ h]; rfl
theorem inord_last (A : List (List (List Value))) (c : List (List Value)) (p : List (List Value)) (h : A.length = p.length) : inord (A ++ [c]) p = inord A p ++ c := by
  have := inord_append A [c] p [] h
  rw [List.append_nil] at this
  rw [this]; simp [inord]
end Go.Proofs.Ybulkcday
