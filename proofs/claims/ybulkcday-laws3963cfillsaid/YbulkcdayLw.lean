import Derived.Test.YbulkcdayNx
namespace Go.Proofs.Ybulkcday
open Go.RowKit

/-- Two things as one. -/
def Res.two (r s : Res) : Res where
  F := fun b => r.F b ∨ s.F b
  A := fun w => r.A w ∧ s.A w
  keep := fun w w' S h k hS => ⟨r.keep w w' S h.1 k (fun b hb => hS b (.inl hb)), s.keep w w' S h.2 k (fun b hb => hS b (.inr hb))⟩
  lt := fun w b h hb => hb.elim (r.lt w b h.1) (s.lt w b h.2)

theorem Rw.kids {w : World} {p : Nat} {vt ve vk0 vk : Value} {X Z G : List Value} (h : Rw w p vt ve vk0 X Z []) (ho : w.ownsRow 0 24 1 vk G.length G) (hd : ∀ b, Wf p vt ve vk0 b → vk.ownBlock ≠ some b) :
    Rw (w.setCell ⟨p, 2, none⟩ vk) p vt ve vk X Z G ∧ Keeps (Wf p vt ve vk0) w (w.setCell ⟨p, 2, none⟩ vk) := by
  have hks : Keeps (fun b => b = p) w (w.setCell ⟨p, 2, none⟩ vk) := (Keeps.refl (fun b => b = p) w).setCell (p := ⟨p, 2, none⟩) (fun _ => rfl) _
  have hvp : vk.ownBlock ≠ some p := hd p (.inl rfl)
  refine ⟨⟨by rw [heap_setCell _ h.blk]; simp, ?_, ?_, ?_, h.pt, h.pe, hvp, h.te, ?_, ?_⟩, hks.mono (fun b _ hb => .inl hb)⟩
  · exact hks.own h.txt (fun g hg e => h.pt (e ▸ hg))
  · exact hks.own h.ens (fun g hg e => h.pe (e ▸ hg))
  · exact hks.own ho (fun g hg e => hvp (e ▸ hg))
  · intro g hg; exact hd g (.inr (.inl hg))
  · intro g hg; exact hd g (.inr (.inr (.inl hg)))

theorem parent_done {w0 w : World} {inn : Bool} {n pp gc gn : Nat} {kids : List K} {pks : List (List Value)} {vt ve vO vG : Value} (hn2 : 2 ≤ n) (hn : n ≤ 100) (B : Base w0 w inn n n pp gc gn kids pks vt ve vO vG) :
    ∃ P : K, P.p = pp ∧ Tree inn P kids ∧ Sep w0 (w.setCell ⟨pp, 2, none⟩ (.slice (some ⟨gc, 0, none⟩) n n)) (Res.row 3 (.slice (some ⟨gn, 0, none⟩) n n) (ivals (counts kids)) :: Res.k P :: (kids.map Res.k ++ [Res.row 9 vO (oks (allKeys P kids)), Res.row 24 vG (allKids kids)])) := by
  have hkl := B.kl
  have hpl := B.pl
  have S := B.sep.p4.p4
  rw [Nat.sub_self] at S
  simp only [List.replicate_zero, List.append_nil] at S
  have hd := (List.pairwise_cons.1 S.dis).1 _ (List.mem_cons_self ..)
  have hw := S.head
  have hr := S.tail.head
  have hkw := Rw.kids (vk := .slice (some ⟨gc, 0, none⟩) n n) (G := kids.map K.ptr) hw hr hd
  have hG : ∀ u ∈ kids.map K.ptr, ∃ a, u = Value.pointer a := fun u hu => by
    simp only [List.mem_map] at hu; obtain ⟨k, _, rfl⟩ := hu; exact ⟨_, rfl⟩
  obtain ⟨gt, ct, ge, ce, hok, hfoot⟩ := Rw.done hkw.1 (by omega) (fun k hk => (B.pst k hk).1) (fun k hk => (B.pst k hk).2) (by omega) hG
  have S2 := S.join (t := Res.two (Res.w pp vt ve (.slice none 0 0) pks.flatten (ivals (endsF 0 pks)) []) (Res.row 24 (.slice (some ⟨gc, 0, none⟩) n n) (kids.map K.ptr))) ⟨hw, hr⟩ (fun b hb => hb)
  have S3 := S2.upd1 (r' := Res.k (K.mk pp gt ct ge ce (.slice (some ⟨gc, 0, none⟩) n n) pks (kids.map K.ptr))) hok (hkw.2.mono (fun b _ hb => .inl hb)) (fun b hb => by
    rcases (hfoot b).1 hb with h | h | h | h
    · exact .inl (.inl (.inl h))
    · exact .inl (.inl (.inr (.inl h)))
    · exact .inl (.inl (.inr (.inr (.inl h))))
    · exact .inl (.inr h))
  refine ⟨K.mk pp gt ct ge ce (.slice (some ⟨gc, 0, none⟩) n n) pks (kids.map K.ptr), rfl, ⟨rfl, ?_, by omega, ?_, fun k hk => (B.pst k hk).1, B.kst, B.lf⟩, ?_⟩
  · show pks.length + 1 = kids.length; omega
  · intro k hk; have := B.cnt k hk; omega
  · refine S3.p4.perm (List.Perm.cons _ (List.Perm.cons _ ?_))
    exact (List.perm_append_comm (l₁ := [_, _]) (l₂ := kids.map Res.k))

theorem Sep.storeC {w0 w : World} {rs : List Res} {e : TypeId} {g n c : Nat} {xs : List Value} (S : Sep w0 w (Res.row e (.slice (some ⟨g, 0, none⟩) n c) xs :: rs)) (hl : xs.length = n) (i : Nat) (u : Value) : Sep w0 (w.setCell ⟨g, i, none⟩ u) (Res.row e (.slice (some ⟨g, 0, none⟩) n c) (xs.set i u) :: rs) := by
  have ho : w.ownsRow 0 e 1 (.slice (some ⟨g, 0, none⟩) n c) n xs := by have := S.head; simp only [Res.row] at this; rwa [hl] at this
  have hs := ho.stored i u
  refine S.upd1 (r' := Res.row e (.slice (some ⟨g, 0, none⟩) n c) (xs.set i u)) ?_ ?_ (fun b hb => .inl hb)
  · show (w.setCell ⟨g, i, none⟩ u).ownsRow 0 e 1 (.slice (some ⟨g, 0, none⟩) n c) (xs.set i u).length (xs.set i u)
    rw [List.length_set, hl]; exact hs.1
  · exact Keeps.of_grown hs.2 (fun k h => by show Value.ownBlock _ = some k; rw [Value.ownBlock]; simpa using h)
theorem Sep.cellC {w0 w : World} {rs : List Res} {g n c : Nat} {xs : List Nat} (S : Sep w0 w (Res.row 3 (.slice (some ⟨g, 0, none⟩) n c) (ivals xs) :: rs)) (hl : xs.length = n) (i : Nat) (hi : i < n) : w.cell? ⟨g, i, none⟩ = some (.int .i64 (xs.getD i 0 : Nat)) ∧ w.frozen? ⟨g, i, none⟩ = false := by
  have ho : w.ownsRow 0 3 1 (.slice (some ⟨g, 0, none⟩) n c) n (ivals xs) := by have := S.head; simp only [Res.row] at this; rwa [show (ivals xs).length = n by simp [ivals, hl]] at this
  refine ⟨(ho.cellAt i (by omega)).trans ?_, ho.frozenAt i⟩
  have : i < xs.length := by omega
  simp [ivals, this]
theorem ivals_set (l : List Nat) (i z : Nat) : ivals (l.set i z) = (ivals l).set i (.int .i64 (z : Int)) := by
  unfold ivals; rw [List.map_set]
theorem ivals_len (l : List Nat) : (ivals l).length = l.length := by simp [ivals]
theorem ivals_take (l : List Nat) (i : Nat) : ivals (l.take i) = (ivals l).take i := by unfold ivals; rw [List.map_take]
theorem ivals_drop (l : List Nat) (i : Nat) : ivals (l.drop i) = (ivals l).drop i := by unfold ivals; rw [List.map_drop]
/-- A number of the row is stored. -/
theorem Sep.put {w0 w : World} {rs : List Res} {g n c : Nat} {xs : List Nat} (S : Sep w0 w (Res.row 3 (.slice (some ⟨g, 0, none⟩) n c) (ivals xs) :: rs)) (hl : xs.length = n) (i z : Nat) : Sep w0 (w.setCell ⟨g, i, none⟩ (.int .i64 (z : Int))) (Res.row 3 (.slice (some ⟨g, 0, none⟩) n c) (ivals (xs.set i z)) :: rs) := by
  rw [ivals_set]; exact S.storeC (by rw [ivals_len]; exact hl) i _
/-- Behind Delete. -/
theorem Sep.cut {w0 w w' : World} {rs : List Res} {g n c i j : Nat} {xs : List Nat} (S : Sep w0 w (Res.row 3 (.slice (some ⟨g, 0, none⟩) n c) (ivals xs) :: rs)) (hl : xs.length = n) (hij : i < j) (hj : j ≤ n)
    (ho : w'.ownsRow 0 3 1 (.slice (some ⟨g, 0, none⟩) (i + (n - j)) c) (i + (n - j)) ((ivals xs).take i ++ (ivals xs).drop j)) (hk : Keeps (fun b => b = g) w w') :
    Sep w0 w' (Res.row 3 (.slice (some ⟨g, 0, none⟩) (i + (n - j)) c) (ivals (xs.take i ++ xs.drop j)) :: rs) := by
  rw [ivals_append, ivals_take, ivals_drop]
  refine S.upd1 (r' := Res.row 3 (.slice (some ⟨g, 0, none⟩) (i + (n - j)) c) ((ivals xs).take i ++ (ivals xs).drop j)) ?_ (hk.mono (fun b _ hb => ?_)) (fun b hb => .inl ?_)
  · show w'.ownsRow 0 3 1 _ ((ivals xs).take i ++ (ivals xs).drop j).length _
    rw [show ((ivals xs).take i ++ (ivals xs).drop j).length = i + (n - j) by simp [ivals_len]; omega]; exact ho
  · show Value.ownBlock _ = some b; rw [hb]; rfl
  · have : Value.ownBlock (.slice (some ⟨g, 0, none⟩) (i + (n - j)) c) = some b := hb
    show Value.ownBlock _ = some b; rw [← this]; rfl
theorem cnt_le {kids : List K} (h : ∀ c ∈ kids, 29 ≤ c.ks.length ∧ c.ks.length ≤ 33) (j : Nat) : (counts kids).getD j 0 ≤ 33 := by
  by_cases hj : j < kids.length
  · have := (h kids[j] (by simp)).2
    simpa [counts, hj] using this
  · have : (counts kids).getD j 0 = 0 := by simp [counts, Nat.not_lt.1 hj]
    omega
theorem getD_set_ne (l : List Nat) {a b : Nat} {z : Nat} (h : a ≠ b) : (l.set a z).getD b 0 = l.getD b 0 := by
  simp [List.getD, List.getElem?_set_ne h]

section
variable {c : List Nat} {i x a y z : Nat}
theorem tabA (hx : c.getD i 0 = x) (h : 31 < x) : table c i = (i, c) := by unfold table; rw [if_pos (by omega)]
theorem tabL (hx : c.getD i 0 = x) (h : ¬ 31 < x) (ha : i = a + 1) (hy : c.getD a 0 = y) (h2 : 31 < y) : table c i = (i, (c.set a (y - 1)).set i (x + 1)) := by
  subst ha; subst hx; subst hy
  unfold table; rw [if_neg h, if_pos ⟨by omega, h2⟩]; rfl
theorem tabR (hx : c.getD i 0 = x) (h : ¬ 31 < x) (hL : ¬ (0 < i ∧ 31 < c.getD (i - 1) 0)) (hi : i + 1 < c.length) (hz : c.getD (i + 1) 0 = z) (h2 : 31 < z) : table c i = (i, (c.set (i + 1) (z - 1)).set i (x + 1)) := by
  subst hx; subst hz
  unfold table; rw [if_neg h, if_neg hL, if_pos ⟨hi, h2⟩]
theorem tabM (hx : c.getD i 0 = x) (h : ¬ 31 < x) (hL : ¬ (0 < i ∧ 31 < c.getD (i - 1) 0)) (hi : i + 1 < c.length) (hz : c.getD (i + 1) 0 = z) (h2 : ¬ 31 < z) : table c i = (i, (c.set i (x + 1 + z)).take (i + 1) ++ (c.set i (x + 1 + z)).drop (i + 2)) := by
  subst hx; subst hz
  unfold table; rw [if_neg h, if_neg hL, if_neg (fun h => h2 h.2), if_pos hi]
theorem tabN (hx : c.getD i 0 = x) (h : ¬ 31 < x) (hL : ¬ (0 < i ∧ 31 < c.getD (i - 1) 0)) (hi : ¬ i + 1 < c.length) (ha : i = a + 1) (hy : c.getD a 0 = y) : table c i = (a, (c.set a (y + 1 + x)).take i ++ (c.set a (y + 1 + x)).drop (i + 1)) := by
  subst hx; subst hy; subst ha
  unfold table; rw [if_neg h, if_neg hL, if_neg (fun h => hi h.1), if_neg hi]; rfl
end
theorem inord_len {α : Type} : ∀ (A : List (List α)) (p : List α), (∀ c ∈ A, c.length ≤ 64) → (inord A p).length ≤ 65 * A.length
  | [], _, _ => by simp [inord]
  | c :: A, [], h => by
    have h1 := h c (by simp)
    have h2 := inord_len A [] (fun c hc => h c (by simp [hc]))
    simp only [inord, List.length_append, List.length_cons]; omega
  | c :: A, k :: p, h => by
    have h1 := h c (by simp)
    have h2 := inord_len A p (fun c hc => h c (by simp [hc]))
    simp only [inord, List.length_append, List.length_cons]; omega
theorem flat_len {α : Type} : ∀ (A : List (List α)), (∀ c ∈ A, c.length ≤ 65) → A.flatten.length ≤ 65 * A.length
  | [], _ => by simp
  | c :: A, h => by
    have h1 := h c (by simp)
    have h2 := flat_len A (fun c hc => h c (by simp [hc]))
    simp only [List.flatten_cons, List.length_append, List.length_cons]; omega
theorem Tree.keys_len {inn : Bool} {P : K} {kids : List K} (T : Tree inn P kids) : (allKeys P kids).length ≤ 6500 := by
  have h := inord_len (kids.map K.ks) P.ks (fun c hc => by simp only [List.mem_map] at hc; obtain ⟨k, hk, rfl⟩ := hc; exact (T.cnt k hk).2)
  have := T.few
  rw [List.length_map] at h
  unfold allKeys; omega
theorem Tree.kids_len {inn : Bool} {P : K} {kids : List K} (T : Tree inn P kids) : (allKids kids).length ≤ 6500 := by
  have h := flat_len (kids.map K.gs) (fun c hc => by
    simp only [List.mem_map] at hc; obtain ⟨k, hk, rfl⟩ := hc
    have h1 := (T.cnt k hk).2
    have h2 := T.lf k hk
    cases inn with
    | false => rw [(h2.1 rfl).2]; simp
    | true => rw [h2.2 rfl]; omega)
  have := T.few
  rw [List.length_map] at h
  unfold allKids; omega
end Go.Proofs.Ybulkcday
