import Derived.Test.YbulkcdayDel
namespace Go.Proofs.Ybulkcday
open Go.RowKit

def endsF : Nat → List (List Value) → List Nat
  | _, [] => []
  | a, k :: ks => (a + k.length) :: endsF (a + k.length) ks
theorem endsF_length (a : Nat) (ks : List (List Value)) : (endsF a ks).length = ks.length := by
  induction ks generalizing a with
  | nil => rfl
  | cons k ks ih => simp [endsF, ih]
theorem endsF_get (a : Nat) (ks : List (List Value)) (i : Nat) (h : i < ks.length) : (endsF a ks)[i]? = some (a + off ks (i + 1)) := by
  induction ks generalizing a i with
  | nil => simp at h
  | cons k ks ih =>
    cases i with
    | zero => simp [endsF, off]
    | succ i =>
      simp only [List.length_cons] at h
      simp only [endsF, List.getElem?_cons_succ]
      rw [ih (a + k.length) i (by omega)]
      congr 1
      unfold off
      simp only [List.take_succ_cons, List.flatten_cons, List.length_append]
      omega
theorem endsV_eq (ks : List (List Value)) : endsV ks = ivals (endsF 0 ks) := by
  apply List.ext_getElem?
  intro i
  by_cases h : i < ks.length
  · rw [endsV_get ks i h, ivals, List.getElem?_map, endsF_get 0 ks i h]; simp
  · rw [List.getElem?_eq_none (by simp [endsV]; omega), List.getElem?_eq_none (by simp [ivals, endsF_length]; omega)]
theorem endsF_append (a : Nat) (A B : List (List Value)) : endsF a (A ++ B) = endsF a A ++ endsF (a + A.flatten.length) B := by
  induction A generalizing a with
  | nil => simp [endsF]
  | cons k A ih => simp only [List.cons_append, endsF, ih, List.flatten_cons, List.length_append, Nat.add_assoc]
theorem endsF_shift (a d : Nat) (B : List (List Value)) : endsF (a + d) B = (endsF a B).map (· + d) := by
  induction B generalizing a with
  | nil => rfl
  | cons k B ih =>
    simp only [endsF, List.map_cons]
    rw [show a + d + k.length = a + k.length + d by omega, ih]
theorem endsF_ge (a : Nat) (B : List (List Value)) : ∀ z ∈ endsF a B, a ≤ z ∧ z ≤ a + B.flatten.length := by
  induction B generalizing a with
  | nil => intro z hz; simp [endsF] at hz
  | cons k B ih =>
    intro z hz
    simp only [endsF, List.mem_cons] at hz
    simp only [List.flatten_cons, List.length_append]
    rcases hz with rfl | hz
    · omega
    · have := ih (a + k.length) z hz; omega
theorem endsF_take (ks : List (List Value)) (i : Nat) : (endsF 0 ks).take i = endsF 0 (ks.take i) := by
  have h := endsF_append 0 (ks.take i) (ks.drop i)
  rw [List.take_append_drop] at h
  by_cases hi : i ≤ ks.length
  · rw [h]; exact List.take_left' (by rw [endsF_length]; simp; omega)
  · rw [List.take_of_length_le (by rw [endsF_length]; omega), List.take_of_length_le (by omega)]
theorem endsF_drop (ks : List (List Value)) (i : Nat) (hi : i ≤ ks.length) : (endsF 0 ks).drop i = endsF (off ks i) (ks.drop i) := by
  have h := endsF_append 0 (ks.take i) (ks.drop i)
  rw [List.take_append_drop] at h
  rw [h]
  rw [List.drop_left' (by rw [endsF_length]; simp; omega)]
  simp [off]

/-- A node with its two rows named. -/
structure Node (w : World) (p gt ct ge ce : Nat) (vk : Value) (ks : List (List Value)) (gs : List Value) : Prop where
  raw : Raw w p gt ks.flatten.length ct ge ks.length ce vk ks.flatten (ivals (endsF 0 ks))
  kid : w.ownsRow 0 24 1 vk gs.length gs
  kp : vk.ownBlock ≠ some p
  kt : vk.ownBlock ≠ some gt
  ke : vk.ownBlock ≠ some ge
  u8 : ∀ k ∈ ks, ∀ u ∈ k, ∃ y, u = .int .u8 y
  pos : ∀ k ∈ ks, 0 < k.length ∧ k.length ≤ 100
  few : ks.length ≤ 10000
  ptr : ∀ u ∈ gs, ∃ a, u = .pointer a

theorem Node.nd {w : World} {p gt ct ge ce : Nat} {vk : Value} {ks : List (List Value)} {gs : List Value} (h : Node w p gt ct ge ce vk ks gs) : Nd w p (.slice (some ⟨gt, 0, none⟩) ks.flatten.length ct) (.slice (some ⟨ge, 0, none⟩) ks.length ce) vk ks gs := by
  have h1 := h.raw.pt; have h2 := h.raw.pe; have h3 := h.raw.te
  refine ⟨h.raw.blk, h.raw.txt, by rw [endsV_eq]; exact h.raw.ens, h.kid, ?_, ?_, ?_, ?_, ?_, ?_, h.u8, h.pos, h.few, h.ptr⟩
  · intro g hg; cases hg; simp [Value.ownBlock]; omega
  · intro g hg; cases hg; simp [Value.ownBlock]; omega
  · intro g hg; cases hg; exact h.kp
  · intro g hg; simp [Value.ownBlock] at hg; subst hg; simp [Value.ownBlock]; omega
  · intro g hg; simp [Value.ownBlock] at hg; subst hg; exact h.kt
  · intro g hg; simp [Value.ownBlock] at hg; subst hg; exact h.ke

theorem Node.tlen {w : World} {p gt ct ge ce : Nat} {vk : Value} {ks : List (List Value)} {gs : List Value} (h : Node w p gt ct ge ce vk ks gs) : ks.flatten.length ≤ 1000000 := h.nd.tlen
theorem Node.one {w : World} {p gt ct ge ce : Nat} {vk : Value} {ks : List (List Value)} {gs : List Value} (h : Node w p gt ct ge ce vk ks gs) : ∀ u ∈ ks.flatten, u.oneCell' = true := by
  intro u hu
  obtain ⟨k, hk, huk⟩ := List.mem_flatten.1 hu
  obtain ⟨y, rfl⟩ := h.u8 k hk u huk
  rfl

/-- What the blocks of a node are. -/
def Foot (p gt ge : Nat) (vk : Value) (b : Nat) : Prop := b = p ∨ b = gt ∨ b = ge ∨ vk.ownBlock = some b

theorem Node.keep {S : Nat → Prop} {w w1 : World} {p gt ct ge ce : Nat} {vk : Value} {ks : List (List Value)} {gs : List Value} (h : Node w p gt ct ge ce vk ks gs) (hk : Keeps S w w1) (hS : ∀ b, Foot p gt ge vk b → ¬ S b) : Node w1 p gt ct ge ce vk ks gs :=
  ⟨h.raw.keep hk (hS p (.inl rfl)) (hS gt (.inr (.inl rfl))) (hS ge (.inr (.inr (.inl rfl)))), hk.own h.kid (fun g hg => hS g (.inr (.inr (.inr hg)))), h.kp, h.kt, h.ke, h.u8, h.pos, h.few, h.ptr⟩
theorem Node.lt {w : World} {p gt ct ge ce : Nat} {vk : Value} {ks : List (List Value)} {gs : List Value} (h : Node w p gt ct ge ce vk ks gs) : ∀ b, Foot p gt ge vk b → b < w.heap.size := by
  intro b hb
  rcases hb with rfl | rfl | rfl | hb
  · exact (Array.getElem?_eq_some_iff.1 h.raw.blk).1
  · exact (h.raw.txt.lt _ rfl).2
  · exact (h.raw.ens.lt _ rfl).2
  · exact (h.kid.lt _ hb).2

/-- The string's bytes as a key. -/
theorem str_key (s : ByteArray) : ∀ u ∈ Lib.strCells s, ∃ y, u = Value.int .u8 y := by
  intro u hu; simp only [Lib.strCells, List.mem_map] at hu; obtain ⟨b, _, rfl⟩ := hu; exact ⟨_, rfl⟩

theorem ins_node {w : World} {p gt ct ge ce : Nat} {vk : Value} {ks : List (List Value)} {gs : List Value} (h : Node w p gt ct ge ce vk ks gs) (i : Nat) (hi : i ≤ ks.length) (hfew : ks.length + 1 ≤ 10000)
    (s : ByteArray) (hs0 : 0 < s.size) (hs1 : s.size ≤ 100) (K : Nat) (hK : w.cell? ⟨K, 0, none⟩ = some (.string s)) (hKp : ¬ Foot p gt ge vk K) :
    Calls Yba.prog 22 #[.pointer (some ⟨p, 0, none⟩), .int .i64 i, .slice (some ⟨K, 0, none⟩) 1 1] w fun r w' => r = .returned (.tuple #[]) ∧ ∃ gt' ct' ge' ce', Node w' p gt' ct' ge' ce' vk (ks.take i ++ Lib.strCells s :: ks.drop i) gs ∧
      Keeps (Foot p gt ge vk) w w' ∧ (∀ b, Foot p gt' ge' vk b → Foot p gt ge vk b ∨ w.heap.size ≤ b) := by
  have hle := off_le ks i
  have htl := h.tlen
  have hgt := fun hx : 0 < i => (h.nd.ens.cells (g := ge) rfl (i - 1) (.int .i64 (off ks i)) (by rw [endsV_get ks (i - 1) (by omega), show i - 1 + 1 = i by omega]))
  refine (ins_raw h.raw (fun z hz => by have := endsF_ge 0 ks z hz; omega) i (off ks i) hi h.few htl hle (fun e => by rw [e, off_zero]) (fun hx => ?_) s hs0 hs1 K hK (fun e => hKp (.inl e)) (fun e => hKp (.inr (.inl e))) (fun e => hKp (.inr (.inr (.inl e)))) h.one).mono ?_
  · rw [← hgt hx]; congr 1; unfold Addr.add; split <;> simp_all
  · rintro r w' ⟨rfl, gt', ct', ge', ce', R, hk, hg1, hg2⟩
    have hlen : (ks.take i ++ Lib.strCells s :: ks.drop i).flatten.length = ks.flatten.length + s.size := by
      have h1 : ks.flatten.length = (ks.take i).flatten.length + (ks.drop i).flatten.length := by rw [← List.length_append, ← List.flatten_append, List.take_append_drop]
      rw [List.flatten_append, List.flatten_cons, List.length_append, List.length_append, Lib.strCells_length, h1]; omega
    have hflat : (ks.take i ++ Lib.strCells s :: ks.drop i).flatten = ks.flatten.take (off ks i) ++ (Lib.strCells s ++ ks.flatten.drop (off ks i)) := by
      rw [flat_take, flat_drop, List.flatten_append, List.flatten_cons]
    have hends : endsF 0 (ks.take i ++ Lib.strCells s :: ks.drop i) = (endsF 0 ks).take i ++ (off ks i + s.size) :: ((endsF 0 ks).drop i).map (· + s.size) := by
      rw [endsF_append, endsF_take, endsF_drop ks i hi, endsF, Lib.strCells_length]
      have : 0 + (ks.take i).flatten.length = off ks i := by simp [off]
      rw [this, endsF_shift]
    have hkid : ∀ g, vk.ownBlock = some g → ¬ (g = p ∨ g = gt ∨ g = ge) := by
      intro g hg hx
      rcases hx with rfl | rfl | rfl
      · exact h.kp hg
      · exact h.kt hg
      · exact h.ke hg
    refine ⟨rfl, gt', ct', ge', ce', ⟨?_, hk.own h.kid hkid, h.kp, ?_, ?_, ?_, ?_, by simp; omega, h.ptr⟩, hk.mono (fun b _ hb => ?_), fun b hb => ?_⟩
    · have hl2 : (ks.take i ++ Lib.strCells s :: ks.drop i).length = ks.length + 1 := by simp; omega
      rw [hlen, hl2, hflat, hends]; exact R
    · intro e
      rcases hg1 with rfl | hx
      · exact h.kt e
      · have := h.kid.lt _ e; omega
    · intro e
      rcases hg2 with rfl | hx
      · exact h.ke e
      · have := h.kid.lt _ e; omega
    · intro k hk
      simp only [List.mem_append, List.mem_cons] at hk
      rcases hk with hk | rfl | hk
      · exact h.u8 k (List.mem_of_mem_take hk)
      · exact str_key s
      · exact h.u8 k (List.mem_of_mem_drop hk)
    · intro k hk
      simp only [List.mem_append, List.mem_cons] at hk
      rcases hk with hk | rfl | hk
      · exact h.pos k (List.mem_of_mem_take hk)
      · rw [Lib.strCells_length]; exact ⟨hs0, hs1⟩
      · exact h.pos k (List.mem_of_mem_drop hk)
    · unfold Foot
      rcases hb with h | h | h
      · exact .inl h
      · exact .inr (.inl h)
      · exact .inr (.inr (.inl h))
    · unfold Foot at hb ⊢
      rcases hb with rfl | rfl | rfl | hb
      · exact .inl (.inl rfl)
      · rcases hg1 with rfl | hx
        · exact .inl (.inr (.inl rfl))
        · exact .inr hx
      · rcases hg2 with rfl | hx
        · exact .inl (.inr (.inr (.inl rfl)))
        · exact .inr hx
      · exact .inl (.inr (.inr (.inr hb)))

theorem del_node {w : World} {p gt ct ge ce : Nat} {vk : Value} {ks : List (List Value)} {gs : List Value} (h : Node w p gt ct ge ce vk ks gs) (i : Nat) (hi : i < ks.length) :
    Calls Yba.prog 28 #[.pointer (some ⟨p, 0, none⟩), .int .i64 i] w fun r w' => r = .returned (.tuple #[]) ∧ ∃ ct' ce', Node w' p gt ct' ge ce' vk (ks.take i ++ ks.drop (i + 1)) gs ∧ Keeps (Foot p gt ge vk) w w' := by
  have hle := off_le ks (i + 1)
  have htl := h.tlen
  have hsu := off_succ ks i hi
  have hpos := h.pos ks[i] (by simp)
  have hcell : ∀ j, j < ks.length → w.cell? ⟨ge, j, none⟩ = some (.int .i64 (off ks (j + 1))) := fun j hj => by
    rw [h.nd.ens.cellAt j (by omega), endsV_get ks j hj]
  have hz : (endsF 0 ks).drop (i + 1) = endsF (off ks (i + 1)) (ks.drop (i + 1)) := endsF_drop ks (i + 1) (by omega)
  have hfl : off ks (i + 1) + (ks.drop (i + 1)).flatten.length = ks.flatten.length := by
    rw [← flat_drop, List.length_drop]; omega
  refine (del_raw h.raw i (off ks i) (off ks (i + 1)) hi h.few (by omega) hle (fun e => by rw [e, off_zero]) (fun hx => ?_) (hcell i hi) (fun z hzz => ?_) h.one).mono ?_
  · have := hcell (i - 1) (by omega); rwa [show i - 1 + 1 = i by omega] at this
  · rw [hz] at hzz
    have := endsF_ge _ _ z hzz
    omega
  · rintro r w' ⟨rfl, ct', ce', R, hk⟩
    have hflat : (ks.take i ++ ks.drop (i + 1)).flatten = ks.flatten.take (off ks i) ++ ks.flatten.drop (off ks (i + 1)) := by
      rw [flat_take, flat_drop, List.flatten_append]
    have hlen : (ks.take i ++ ks.drop (i + 1)).flatten.length = off ks i + (ks.flatten.length - off ks (i + 1)) := by
      rw [hflat, List.length_append, List.length_take, List.length_drop]; omega
    have hends : endsF 0 (ks.take i ++ ks.drop (i + 1)) = (endsF 0 ks).take i ++ ((endsF 0 ks).drop (i + 1)).map (· - (off ks (i + 1) - off ks i)) := by
      rw [endsF_append, endsF_take, hz]
      congr 1
      have : 0 + (ks.take i).flatten.length = off ks i := by simp [off]
      rw [this, show off ks (i + 1) = off ks i + (off ks (i + 1) - off ks i) by omega, endsF_shift, List.map_map]
      rw [show off ks i + (off ks (i + 1) - off ks i) - off ks i = off ks (i + 1) - off ks i by omega]
      generalize off ks (i + 1) - off ks i = d
      have : ((fun x : Nat => x - d) ∘ (fun x : Nat => x + d)) = id := by funext x; simp
      rw [this, List.map_id]
    have hkid : ∀ g, vk.ownBlock = some g → ¬ (g = p ∨ g = gt ∨ g = ge) := by
      intro g hg hx
      rcases hx with rfl | rfl | rfl
      · exact h.kp hg
      · exact h.kt hg
      · exact h.ke hg
    refine ⟨rfl, ct', ce', ⟨?_, hk.own h.kid hkid, h.kp, h.kt, h.ke, ?_, ?_, by have := h.few; simp; omega, h.ptr⟩, hk.mono (fun b _ hb => ?_)⟩
    · have hl2 : (ks.take i ++ ks.drop (i + 1)).length = ks.length - 1 := by simp; omega
      rw [hlen, hl2, hflat, hends]; exact R
    · intro k hk
      rcases List.mem_append.1 hk with hk | hk
      · exact h.u8 k (List.mem_of_mem_take hk)
      · exact h.u8 k (List.mem_of_mem_drop hk)
    · intro k hk
      rcases List.mem_append.1 hk with hk | hk
      · exact h.pos k (List.mem_of_mem_take hk)
      · exact h.pos k (List.mem_of_mem_drop hk)
    · unfold Foot
      rcases hb with h | h | h
      · exact .inl h
      · exact .inr (.inl h)
      · exact .inr (.inr (.inl h))
end Go.Proofs.Ybulkcday
