import Derived.Test.YbulkcdayInsK
namespace Go.Proofs.Ybulkcday
open Go.RowKit

/-- A node by its parts. -/
structure K where
  p : Nat
  gt : Nat
  ct : Nat
  ge : Nat
  ce : Nat
  vk : Value
  ks : List (List Value)
  gs : List Value
def K.ok (w : World) (k : K) : Prop := Node w k.p k.gt k.ct k.ge k.ce k.vk k.ks k.gs
def K.foot (k : K) (b : Nat) : Prop := Foot k.p k.gt k.ge k.vk b
def K.ptr (k : K) : Value := .pointer (some ⟨k.p, 0, none⟩)
def Dis (a b : K) : Prop := ∀ x, a.foot x → ¬ b.foot x
theorem Dis.symm {a b : K} (h : Dis a b) : Dis b a := fun x hb ha => h x ha hb
theorem K.foot_p (k : K) : k.foot k.p := .inl rfl

/-- A has turned to A'; nothing else has. -/
structure Upd (w w' : World) (A A' : K) : Prop where
  ok : A'.ok w'
  keeps : Keeps A.foot w w'
  grows : ∀ b, A'.foot b → A.foot b ∨ w.heap.size ≤ b
  p : A'.p = A.p

theorem Upd.refl {w : World} {A : K} (h : A.ok w) : Upd w w A A := ⟨h, Keeps.refl _ _, fun _ h => .inl h, rfl⟩
theorem Upd.trans {w w1 w2 : World} {A B C : K} (h : Upd w w1 A B) (k : Upd w1 w2 B C) : Upd w w2 A C :=
  ⟨k.ok, h.keeps.trans k.keeps (fun b hb hB => by rcases h.grows b hB with e | e; exact e; omega),
   fun b hb => by
     rcases k.grows b hb with e | e
     · exact h.grows b e
     · exact .inr (Nat.le_trans h.keeps.size e),
   k.p.trans h.p⟩
theorem Upd.other {w w' : World} {A A' B : K} (h : Upd w w' A A') (hB : B.ok w) (hd : Dis A B) : B.ok w' ∧ Dis A' B :=
  ⟨hB.keep h.keeps (fun b hb ha => hd b ha hb), fun b ha hb => by
    rcases h.grows b ha with e | e
    · exact hd b e hb
    · have := hB.lt b hb; omega⟩
/-- A world that has only grown. -/
theorem K.keepF {w w' : World} {A : K} (h : A.ok w) (hk : Keeps (fun _ => False) w w') : A.ok w' := h.keep hk (fun _ _ h => h)
theorem Upd.pre {w w1 w2 : World} {A B : K} (hk : Keeps (fun _ => False) w w1) (h : Upd w1 w2 A B) : Upd w w2 A B :=
  ⟨h.ok, (hk.mono (fun _ _ h => h.elim)).trans h.keeps (fun _ _ h => h), fun b hb => by
    rcases h.grows b hb with e | e
    · exact .inl e
    · exact .inr (Nat.le_trans hk.size e), h.p⟩

theorem ins_k {w : World} {A : K} (h : A.ok w) (i : Nat) (hi : i ≤ A.ks.length) (hfew : A.ks.length + 1 ≤ 10000) (s : ByteArray) (hs0 : 0 < s.size) (hs1 : s.size ≤ 100) (q : Nat) (hq : w.cell? ⟨q, 0, none⟩ = some (.string s)) (hqp : ¬ A.foot q) :
    Calls Yba.prog 22 #[A.ptr, .int .i64 i, .slice (some ⟨q, 0, none⟩) 1 1] w fun r w' => r = .returned (.tuple #[]) ∧ ∃ A', Upd w w' A A' ∧ A'.ks = A.ks.take i ++ Lib.strCells s :: A.ks.drop i ∧ A'.gs = A.gs ∧ A'.vk = A.vk := by
  refine (ins_node h i hi hfew s hs0 hs1 q hq hqp).mono ?_
  rintro r w' ⟨rfl, gt', ct', ge', ce', hN, hk, hf⟩
  exact ⟨rfl, ⟨A.p, gt', ct', ge', ce', A.vk, _, A.gs⟩, ⟨hN, hk, hf, rfl⟩, rfl, rfl, rfl⟩
theorem del_k {w : World} {A : K} (h : A.ok w) (i : Nat) (hi : i < A.ks.length) :
    Calls Yba.prog 28 #[A.ptr, .int .i64 i] w fun r w' => r = .returned (.tuple #[]) ∧ ∃ A', Upd w w' A A' ∧ A'.ks = A.ks.take i ++ A.ks.drop (i + 1) ∧ A'.gs = A.gs ∧ A'.vk = A.vk := by
  refine (del_node h i hi).mono ?_
  rintro r w' ⟨rfl, ct', ce', hN, hk⟩
  exact ⟨rfl, ⟨A.p, A.gt, ct', A.ge, ce', A.vk, _, A.gs⟩, ⟨hN, hk, fun b hb => .inl hb, rfl⟩, rfl, rfl, rfl⟩
theorem app_k {w : World} {A : K} (h : A.ok w) (hfew : A.ks.length + 1 ≤ 10000) (x : Value) (m : Nat) (k : List Value) (hsrc : Src w 1 x m k) (hm0 : 0 < m) (hm1 : m ≤ 100) (hu : ∀ u ∈ k, ∃ y, u = Value.int .u8 y) :
    Calls Yba.prog 31 #[A.ptr, x] w fun r w' => r = .returned (.tuple #[]) ∧ ∃ A', Upd w w' A A' ∧ A'.ks = A.ks ++ [k] ∧ A'.gs = A.gs ∧ A'.vk = A.vk := by
  refine (app_node h hfew x m k hsrc hm0 hm1 hu).mono ?_
  rintro r w' ⟨rfl, gt', ct', ge', ce', hN, hk, hf⟩
  exact ⟨rfl, ⟨A.p, gt', ct', ge', ce', A.vk, _, A.gs⟩, ⟨hN, hk, hf, rfl⟩, rfl, rfl, rfl⟩
theorem rep_k {w : World} {A : K} (h : A.ok w) (i : Nat) (hi : i < A.ks.length) (s : ByteArray) (hs0 : 0 < s.size) (hs1 : s.size ≤ 100) :
    Calls Yba.prog 27 #[A.ptr, .int .i64 i, .string s] w fun r w' => r = .returned (.tuple #[]) ∧ ∃ A', Upd w w' A A' ∧ A'.ks = A.ks.take i ++ Lib.strCells s :: A.ks.drop (i + 1) ∧ A'.gs = A.gs ∧ A'.vk = A.vk := by
  refine (rep_node h i hi s hs0 hs1).mono ?_
  rintro r w' ⟨rfl, gt', ct', ge', ce', hN, hk, hf⟩
  exact ⟨rfl, ⟨A.p, gt', ct', ge', ce', A.vk, _, A.gs⟩, ⟨hN, hk, hf, rfl⟩, rfl, rfl, rfl⟩
theorem count_k {w : World} {A : K} (h : A.ok w) : Calls Yba.prog 15 #[A.ptr] w fun r w' => r = .returned (.int .i64 A.ks.length) ∧ w' = w := count_any h.nd
/-- The key's bytes, as an append's source, in whatever world is like w there. -/
theorem key_k {w : World} {A : K} (h : A.ok w) (i : Nat) (hi : i < A.ks.length) : Calls Yba.prog 16 #[A.ptr, .int .i64 i] w fun r w' => ∃ o c nq, r = .returned (.slice (some ⟨A.gt, o, none⟩) A.ks[i].length c) ∧ w' = w.drewN nq ∧ (∀ w1, A.ok w1 → Src w1 1 (.slice (some ⟨A.gt, o, none⟩) A.ks[i].length c) A.ks[i].length A.ks[i]) := by
  refine (key_any h.nd i hi).mono ?_
  rintro r w' ⟨g, c, nq, rfl, hg, rfl⟩
  simp [Value.ownBlock] at hg
  subst hg
  have hsu := off_succ A.ks i hi
  have e1 : off A.ks (i + 1) - off A.ks i = A.ks[i].length := by omega
  rw [e1]
  exact ⟨_, c, nq, rfl, rfl, fun w1 h1 => by have := h1.key_src i hi c; rwa [e1] at this⟩
theorem K.key_len {w : World} {A : K} (h : A.ok w) (i : Nat) (hi : i < A.ks.length) : 0 < A.ks[i].length ∧ A.ks[i].length ≤ 100 := h.pos A.ks[i] (by simp)

/-- The node's cells. -/
theorem K.cells {w : World} {A : K} (h : A.ok w) : w.cell? ⟨A.p, 1, none⟩ = some (.slice (some ⟨A.ge, 0, none⟩) A.ks.length A.ce) ∧ w.cell? ⟨A.p, 0, none⟩ = some (.slice (some ⟨A.gt, 0, none⟩) A.ks.flatten.length A.ct) ∧ w.cell? ⟨A.p, 2, none⟩ = some A.vk ∧ w.frozen? ⟨A.p, 2, none⟩ = false := by
  simp [World.cell?, World.frozen?, h.raw.blk]

/-- The children's cell is stored anew, behind a change of its row. -/
theorem store2 {w w1 : World} {A : K} {v : Value} {gs' : List Value} (h : A.ok w) (hk : Keeps (fun b => A.vk.ownBlock = some b) w w1) (ho : w1.ownsRow 0 24 1 v gs'.length gs') (hm : ∀ g, v.ownBlock = some g → A.vk.ownBlock = some g ∨ w.heap.size ≤ g) (hp : ∀ u ∈ gs', ∃ a, u = Value.pointer a) :
    Upd w (w1.setCell ⟨A.p, 2, none⟩ v) A { A with vk := v, gs := gs' } := by
  have hb1 := (hk.block A.p (Array.getElem?_eq_some_iff.1 h.raw.blk).1 h.kp).trans h.raw.blk
  have hks : Keeps (fun b => b = A.p) w1 (w1.setCell ⟨A.p, 2, none⟩ v) := (Keeps.refl (fun b => b = A.p) w1).setCell (p := ⟨A.p, 2, none⟩) (fun _ => rfl) _
  have hpt := h.raw.pt; have hpe := h.raw.pe
  have hpl : A.p < w.heap.size := h.lt _ (.inl rfl)
  have htl : A.gt < w.heap.size := h.lt _ (.inr (.inl rfl))
  have hel : A.ge < w.heap.size := h.lt _ (.inr (.inr (.inl rfl)))
  have hvp : v.ownBlock ≠ some A.p := fun e => by rcases hm _ e with h1 | h1; exact h.kp h1; omega
  have hvt : v.ownBlock ≠ some A.gt := fun e => by rcases hm _ e with h1 | h1; exact h.kt h1; omega
  have hve : v.ownBlock ≠ some A.ge := fun e => by rcases hm _ e with h1 | h1; exact h.ke h1; omega
  have hsz := hk.size
  refine ⟨⟨⟨by rw [heap_setCell _ hb1]; simp, ?_, ?_, h.raw.pt, h.raw.pe, h.raw.te⟩, ?_, hvp, hvt, hve, h.u8, h.pos, h.few, hp⟩, ?_, ?_, rfl⟩
  · exact hks.own (hk.own h.raw.txt (fun g hg e => by simp [Value.ownBlock] at hg; subst hg; exact h.kt e)) (fun g hg e => by simp [Value.ownBlock] at hg; omega)
  · exact hks.own (hk.own h.raw.ens (fun g hg e => by simp [Value.ownBlock] at hg; subst hg; exact h.ke e)) (fun g hg e => by simp [Value.ownBlock] at hg; omega)
  · exact hks.own ho (fun g hg e => by subst e; exact hvp hg)
  · exact (hk.mono (fun b _ hb => .inr (.inr (.inr hb)))).setCell (p := ⟨A.p, 2, none⟩) (fun _ => .inl rfl) _
  · intro b hb
    rcases hb with hb | hb | hb | hb
    · exact .inl (.inl hb)
    · exact .inl (.inr (.inl hb))
    · exact .inl (.inr (.inr (.inl hb)))
    · rcases hm b hb with e | e
      · exact .inl (.inr (.inr (.inr e)))
      · exact .inr e
end Go.Proofs.Ybulkcday
