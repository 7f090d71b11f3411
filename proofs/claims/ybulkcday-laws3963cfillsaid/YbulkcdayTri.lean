import Derived.Test.YbulkcdayMerge
import Derived.Laws.IdiomStrings
namespace Go.Proofs.Ybulkcday
open Go.RowKit

/-- The bytes of a key, as a string. -/
def unS (k : List Value) : ByteArray := ⟨(k.map fun v => UInt8.ofNat (intOf v).toNat).toArray⟩
def IsStr (k : List Value) : Prop := Lib.strCells (unS k) = k
theorem unS_str (s : ByteArray) : unS (Lib.strCells s) = s := by
  apply ByteArray.ext
  apply Array.toList_inj.1
  simp [unS, Lib.strCells, intOf, Function.comp_def]
theorem isStr_str (s : ByteArray) : IsStr (Lib.strCells s) := by unfold IsStr; rw [unS_str]
theorem IsStr.size {k : List Value} (_h : IsStr k) : (unS k).size = k.length := by simp [unS, ByteArray.size]

theorem conv_src {w : World} {v : Value} {m : Nat} {k : List Value} (h : Src w 1 v m k) (hm : 0 < m) (hs : IsStr k) : (convert 25 9 v).run Yba.prog w = .ok (.string (unS k)) w := by
  obtain ⟨hl, -, ao, c, rfl, hao, hcell⟩ := h
  cases ao with
  | none => exact absurd (hao rfl) (by omega)
  | some a =>
    have hlen : (unS k).data.toList.length = m := by simp [unS]; omega
    have := run_convert_bytes_back (P := Yba.prog) w 25 9 5 a c (unS k).data.toList Yba.underlying25 Yba.underlying5 Yba.underlying9 (fun j hj => by
      refine hcell a rfl j _ ?_
      conv => lhs; rw [← hs]
      simp only [Lib.strCells, List.getElem?_map]
      rw [List.getElem?_eq_getElem hj]; rfl)
    rw [hlen] at this
    rw [this]

/-- Three nodes, each apart from the others, by whatever has been done to them. -/
structure Tri (w w' : World) (A B C A' B' C' : K) : Prop where
  a : A'.ok w'
  b : B'.ok w'
  c : C'.ok w'
  ab : Dis A' B'
  ac : Dis A' C'
  bc : Dis B' C'
  keeps : Keeps (fun x => A.foot x ∨ B.foot x ∨ C.foot x) w w'
  grows : ∀ x, (A'.foot x ∨ B'.foot x ∨ C'.foot x) → (A.foot x ∨ B.foot x ∨ C.foot x) ∨ w.heap.size ≤ x
  pa : A'.p = A.p
  pb : B'.p = B.p
  pc : C'.p = C.p

theorem Tri.start {w : World} {A B C : K} (a : A.ok w) (b : B.ok w) (c : C.ok w) (ab : Dis A B) (ac : Dis A C) (bc : Dis B C) : Tri w w A B C A B C :=
  ⟨a, b, c, ab, ac, bc, Keeps.refl _ _, fun _ h => .inl h, rfl, rfl, rfl⟩
theorem Tri.quiet {w w1 w2 : World} {A B C A' B' C' : K} (h : Tri w w1 A B C A' B' C') (k : Keeps (fun _ => False) w1 w2) : Tri w w2 A B C A' B' C' :=
  ⟨K.keepF h.a k, K.keepF h.b k, K.keepF h.c k, h.ab, h.ac, h.bc, h.keeps.trans k (fun _ _ h => h.elim), h.grows, h.pa, h.pb, h.pc⟩
theorem Tri.u1 {w w1 w2 : World} {A B C A' B' C' A2 : K} (h : Tri w w1 A B C A' B' C') (u : Upd w1 w2 A' A2) : Tri w w2 A B C A2 B' C' := by
  obtain ⟨hb, dab⟩ := u.other h.b h.ab
  obtain ⟨hc, dac⟩ := u.other h.c h.ac
  have hsz := h.keeps.size
  refine ⟨u.ok, hb, hc, dab, dac, h.bc, h.keeps.trans u.keeps (fun x hx hA => ?_), fun x hx => ?_, u.p.trans h.pa, h.pb, h.pc⟩
  · rcases h.grows x (.inl hA) with e | e
    · exact e
    · omega
  · rcases hx with hx | hx
    · rcases u.grows x hx with e | e
      · exact h.grows x (.inl e)
      · exact .inr (by omega)
    · exact h.grows x (.inr hx)
theorem Tri.rot {w w' : World} {A B C A' B' C' : K} (h : Tri w w' A B C A' B' C') : Tri w w' B C A B' C' A' :=
  ⟨h.b, h.c, h.a, h.bc, h.ab.symm, h.ac.symm, h.keeps.mono (fun _ _ hx => by rcases hx with h | h | h; exact .inr (.inr h); exact .inl h; exact .inr (.inl h)),
   fun x hx => by
     have := h.grows x (by rcases hx with h | h | h; exact .inr (.inl h); exact .inr (.inr h); exact .inl h)
     rcases this with (h | h | h) | h
     · exact .inl (.inr (.inr h))
     · exact .inl (.inl h)
     · exact .inl (.inr (.inl h))
     · exact .inr h,
   h.pb, h.pc, h.pa⟩
theorem Tri.u2 {w w1 w2 : World} {A B C A' B' C' B2 : K} (h : Tri w w1 A B C A' B' C') (u : Upd w1 w2 B' B2) : Tri w w2 A B C A' B2 C' := (h.rot.u1 u).rot.rot
theorem Tri.u3 {w w1 w2 : World} {A B C A' B' C' C2 : K} (h : Tri w w1 A B C A' B' C') (u : Upd w1 w2 C' C2) : Tri w w2 A B C A' B' C2 := (h.rot.rot.u1 u).rot

section
variable {w : World} {A : K} (h : A.ok w) (q : Nat) (hq : A.p = q)
include h hq
theorem ins_q (i : Nat) (hi : i ≤ A.ks.length) (hfew : A.ks.length + 1 ≤ 10000) (s : ByteArray) (hs0 : 0 < s.size) (hs1 : s.size ≤ 100) (r : Nat) (hr : w.cell? ⟨r, 0, none⟩ = some (.string s)) (hqp : ¬ A.foot r) :
    Calls Yba.prog 22 #[.pointer (some ⟨q, 0, none⟩), .int .i64 i, .slice (some ⟨r, 0, none⟩) 1 1] w fun r w' => r = .returned (.tuple #[]) ∧ ∃ A', Upd w w' A A' ∧ A'.ks = A.ks.take i ++ Lib.strCells s :: A.ks.drop i ∧ A'.gs = A.gs ∧ A'.vk = A.vk := by
  subst hq; exact ins_k h i hi hfew s hs0 hs1 r hr hqp
theorem del_q (i : Nat) (hi : i < A.ks.length) :
    Calls Yba.prog 28 #[.pointer (some ⟨q, 0, none⟩), .int .i64 i] w fun r w' => r = .returned (.tuple #[]) ∧ ∃ A', Upd w w' A A' ∧ A'.ks = A.ks.take i ++ A.ks.drop (i + 1) ∧ A'.gs = A.gs ∧ A'.vk = A.vk := by
  subst hq; exact del_k h i hi
theorem app_q (hfew : A.ks.length + 1 ≤ 10000) (x : Value) (m : Nat) (k : List Value) (hsrc : Src w 1 x m k) (hm0 : 0 < m) (hm1 : m ≤ 100) (hu : ∀ u ∈ k, ∃ y, u = Value.int .u8 y) :
    Calls Yba.prog 31 #[.pointer (some ⟨q, 0, none⟩), x] w fun r w' => r = .returned (.tuple #[]) ∧ ∃ A', Upd w w' A A' ∧ A'.ks = A.ks ++ [k] ∧ A'.gs = A.gs ∧ A'.vk = A.vk := by
  subst hq; exact app_k h hfew x m k hsrc hm0 hm1 hu
theorem rep_q (i : Nat) (hi : i < A.ks.length) (s : ByteArray) (hs0 : 0 < s.size) (hs1 : s.size ≤ 100) :
    Calls Yba.prog 27 #[.pointer (some ⟨q, 0, none⟩), .int .i64 i, .string s] w fun r w' => r = .returned (.tuple #[]) ∧ ∃ A', Upd w w' A A' ∧ A'.ks = A.ks.take i ++ Lib.strCells s :: A.ks.drop (i + 1) ∧ A'.gs = A.gs ∧ A'.vk = A.vk := by
  subst hq; exact rep_k h i hi s hs0 hs1
theorem count_q : Calls Yba.prog 15 #[.pointer (some ⟨q, 0, none⟩)] w fun r w' => r = .returned (.int .i64 A.ks.length) ∧ w = w' := by
  subst hq; exact (count_k h).mono fun r w' h => ⟨h.1, h.2.symm⟩
theorem key_q (i : Nat) (hi : i < A.ks.length) : Calls Yba.prog 16 #[.pointer (some ⟨q, 0, none⟩), .int .i64 i] w fun r w' => ∃ o c nq, r = .returned (.slice (some ⟨A.gt, o, none⟩) A.ks[i].length c) ∧ w' = w.drewN nq ∧ (∀ w1, A.ok w1 → Src w1 1 (.slice (some ⟨A.gt, o, none⟩) A.ks[i].length c) A.ks[i].length A.ks[i]) ∧ 0 < A.ks[i].length ∧ A.ks[i].length ≤ 100 := by
  subst hq; refine (key_k h i hi).mono ?_; rintro r w' ⟨o, c, nq, h1, h2, h3⟩; exact ⟨o, c, nq, h1, h2, h3, K.key_len h i hi⟩
end
end Go.Proofs.Ybulkcday
