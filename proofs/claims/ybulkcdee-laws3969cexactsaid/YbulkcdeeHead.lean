import Derived.Test.YbulkcdeeUv
import Derived.Deep.QuietTactic
import Derived.BigQuiet
namespace Go.Proofs.Ybulkcdee
open Go.RowKit

theorem pow7 (sh : Nat) (hs : sh ≤ 7) : (1 : Int) ≤ 2 ^ sh ∧ (2 : Int) ^ sh ≤ 128 := by
  match sh, hs with
  | 0, _ | 1, _ | 2, _ | 3, _ | 4, _ | 5, _ | 6, _ | 7, _ => decide
theorem Hid.mk' {p : Prop} (h : p) : Hid p := h
theorem pow7n (sh : Nat) (hs : sh ≤ 7) : 1 ≤ 2 ^ sh ∧ 2 ^ sh ≤ 128 ∧ ((2 : Int) ^ sh - 1 = ((2 ^ sh - 1 : Nat) : Int)) := by
  match sh, hs with
  | 0, _ | 1, _ | 2, _ | 3, _ | 4, _ | 5, _ | 6, _ | 7, _ => decide
theorem most_wrap (sh L : Nat) (hs : sh ≤ 7) (hL : Hid (L = 2 ^ sh - 1)) : wrap64 (wrap64 (2 ^ sh) - 1) = L := by
  have := pow7 sh hs
  have h2 := (pow7n sh hs).2.2
  rw [IntWalk.wrap64_in (2 ^ sh) ⟨by omega, by omega⟩, IntWalk.wrap64_in _ ⟨by omega, by omega⟩, h2, hL.out]

theorem ret_int {k : IntKind} {a b : Int} (h : a = b) : Ending.returned (.int k a) = .returned (.int k b) := by rw [h]

set_option maxHeartbeats 400000 in
theorem most_any (m : Value) (kd : Value) (sh L : Nat) (w : World) (hs : sh ≤ 7) (hL : Hid (L = 2 ^ sh - 1)) :
    Calls Yba.prog 14 #[.agg #[m, kd, .int .u64 sh]] w fun e w' => e = .returned (.int .i64 L) ∧ Below w.heap.size w w' := by
  go_enter Yba.func14, Yba.ntmps14
  go_wp2
  go_ret
  exact ⟨ret_int (most_wrap sh L hs hL), (Below.refl _ _).alloc (Nat.le_refl _) _⟩

theorem len_bd (c : Int) (u : UInt8) (h0 : 0 ≤ c) (h : c ≤ 56) : 0 ≤ wrap64 (c + wrap64 u.toNat) ∧ wrap64 (c + wrap64 u.toNat) ≤ 400 := by
  have := u.toNat_lt
  rw [IntWalk.wrap64_in (u.toNat : Int) ⟨by omega, by omega⟩, IntWalk.wrap64_in _ ⟨by omega, by omega⟩]
  omega
theorem len_bd0 (u : UInt8) : 0 ≤ wrap64 (wrap64 u.toNat) ∧ wrap64 (wrap64 u.toNat) ≤ 400 := by
  have := u.toNat_lt
  rw [IntWalk.wrap64_in (u.toNat : Int) ⟨by omega, by omega⟩, IntWalk.wrap64_in _ ⟨by omega, by omega⟩]
  omega

set_option maxHeartbeats 1600000 in
set_option maxRecDepth 100000 in
theorem len64_all (x : Int) (_hx : 0 ≤ x) : ∃ k : Int, (∀ w, Calls Yba.prog 12 #[.int .u64 x] w fun e w' => e = .returned (.int .i64 k) ∧ w' = w) ∧ 0 ≤ k ∧ k ≤ 400 := by
  rcases Int.lt_or_le (x) 4294967296 with c1 | c1; rotate_left
  · rcases Int.lt_or_le (x / 4294967296) 65536 with c2 | c2; rotate_left
    · rcases Int.lt_or_le (x / 4294967296 / 65536) 256 with c3 | c3; rotate_left
      · have hb : 0 ≤ x / 4294967296 / 65536 / 256 % 256 ∧ x / 4294967296 / 65536 / 256 % 256 < 256 := by omega
        obtain ⟨u, hu⟩ : ∃ u : UInt8, ∀ w, Calls Yba.prog 12 #[.int .u64 x] w fun e w' => e = .returned (.int .i64 (wrap64 (56 + wrap64 u.toNat))) ∧ w' = w := by
          apply Exists.intro
          intro w
          go_enter Yba.func12, Yba.ntmps12
          go_wp2
          go_ret
          exact ⟨rfl, rfl⟩
        exact ⟨_, hu, (len_bd 56 u (by decide) (by decide)).1, (len_bd 56 u (by decide) (by decide)).2⟩
      · have hb : 0 ≤ x / 4294967296 / 65536 ∧ x / 4294967296 / 65536 < 256 := by omega
        obtain ⟨u, hu⟩ : ∃ u : UInt8, ∀ w, Calls Yba.prog 12 #[.int .u64 x] w fun e w' => e = .returned (.int .i64 (wrap64 (48 + wrap64 u.toNat))) ∧ w' = w := by
          apply Exists.intro
          intro w
          go_enter Yba.func12, Yba.ntmps12
          go_wp2
          go_ret
          exact ⟨rfl, rfl⟩
        exact ⟨_, hu, (len_bd 48 u (by decide) (by decide)).1, (len_bd 48 u (by decide) (by decide)).2⟩
    · rcases Int.lt_or_le (x / 4294967296) 256 with c3 | c3; rotate_left
      · have hb : 0 ≤ x / 4294967296 / 256 ∧ x / 4294967296 / 256 < 256 := by omega
        obtain ⟨u, hu⟩ : ∃ u : UInt8, ∀ w, Calls Yba.prog 12 #[.int .u64 x] w fun e w' => e = .returned (.int .i64 (wrap64 (40 + wrap64 u.toNat))) ∧ w' = w := by
          apply Exists.intro
          intro w
          go_enter Yba.func12, Yba.ntmps12
          go_wp2
          go_ret
          exact ⟨rfl, rfl⟩
        exact ⟨_, hu, (len_bd 40 u (by decide) (by decide)).1, (len_bd 40 u (by decide) (by decide)).2⟩
      · have hb : 0 ≤ x / 4294967296 ∧ x / 4294967296 < 256 := by omega
        obtain ⟨u, hu⟩ : ∃ u : UInt8, ∀ w, Calls Yba.prog 12 #[.int .u64 x] w fun e w' => e = .returned (.int .i64 (wrap64 (32 + wrap64 u.toNat))) ∧ w' = w := by
          apply Exists.intro
          intro w
          go_enter Yba.func12, Yba.ntmps12
          go_wp2
          go_ret
          exact ⟨rfl, rfl⟩
        exact ⟨_, hu, (len_bd 32 u (by decide) (by decide)).1, (len_bd 32 u (by decide) (by decide)).2⟩
  · rcases Int.lt_or_le (x) 65536 with c2 | c2; rotate_left
    · rcases Int.lt_or_le (x / 65536) 256 with c3 | c3; rotate_left
      · have hb : 0 ≤ x / 65536 / 256 ∧ x / 65536 / 256 < 256 := by omega
        obtain ⟨u, hu⟩ : ∃ u : UInt8, ∀ w, Calls Yba.prog 12 #[.int .u64 x] w fun e w' => e = .returned (.int .i64 (wrap64 (24 + wrap64 u.toNat))) ∧ w' = w := by
          apply Exists.intro
          intro w
          go_enter Yba.func12, Yba.ntmps12
          go_wp2
          go_ret
          exact ⟨rfl, rfl⟩
        exact ⟨_, hu, (len_bd 24 u (by decide) (by decide)).1, (len_bd 24 u (by decide) (by decide)).2⟩
      · have hb : 0 ≤ x / 65536 ∧ x / 65536 < 256 := by omega
        obtain ⟨u, hu⟩ : ∃ u : UInt8, ∀ w, Calls Yba.prog 12 #[.int .u64 x] w fun e w' => e = .returned (.int .i64 (wrap64 (16 + wrap64 u.toNat))) ∧ w' = w := by
          apply Exists.intro
          intro w
          go_enter Yba.func12, Yba.ntmps12
          go_wp2
          go_ret
          exact ⟨rfl, rfl⟩
        exact ⟨_, hu, (len_bd 16 u (by decide) (by decide)).1, (len_bd 16 u (by decide) (by decide)).2⟩
    · rcases Int.lt_or_le (x) 256 with c3 | c3; rotate_left
      · have hb : 0 ≤ x / 256 ∧ x / 256 < 256 := by omega
        obtain ⟨u, hu⟩ : ∃ u : UInt8, ∀ w, Calls Yba.prog 12 #[.int .u64 x] w fun e w' => e = .returned (.int .i64 (wrap64 (8 + wrap64 u.toNat))) ∧ w' = w := by
          apply Exists.intro
          intro w
          go_enter Yba.func12, Yba.ntmps12
          go_wp2
          go_ret
          exact ⟨rfl, rfl⟩
        exact ⟨_, hu, (len_bd 8 u (by decide) (by decide)).1, (len_bd 8 u (by decide) (by decide)).2⟩
      · have hb : 0 ≤ x ∧ x < 256 := by omega
        obtain ⟨u, hu⟩ : ∃ u : UInt8, ∀ w, Calls Yba.prog 12 #[.int .u64 x] w fun e w' => e = .returned (.int .i64 (wrap64 (wrap64 u.toNat))) ∧ w' = w := by
          apply Exists.intro
          intro w
          go_enter Yba.func12, Yba.ntmps12
          go_wp2
          go_ret
          exact ⟨rfl, rfl⟩
        exact ⟨_, hu, (len_bd0 u).1, (len_bd0 u).2⟩

set_option maxHeartbeats 800000 in
theorem usize_all (x : Int) : ∃ k : Int, (∀ w, Calls Yba.prog 9 #[.int .u64 x] w fun e w' => e = .returned (.int .i64 k) ∧ w' = w) ∧ 0 ≤ k ∧ k ≤ 100 := by
  obtain ⟨j, hj, hj0, hj1⟩ := len64_all (bits .or .u64 x 1) (bits_lo_u64 _ _ _)
  refine ⟨(j + 6) / 7, fun w => ?_, by omega, by omega⟩
  go_enter Yba.func9, Yba.ntmps9
  go_wp2_with (go_at_call 12; refine (hj _).mono ?_; rintro e w' ⟨rfl, rfl⟩)
  go_ret
  exact ⟨rfl, rfl⟩

/-- k is the length of the common beginning of p and n, at most lim. -/
structure IsPre (lim : Nat) (p n : ByteArray) (k : Nat) : Prop where
  hl : k ≤ lim
  hp : k ≤ p.size
  hn : k ≤ n.size
  eq : ∀ i (h1 : i < p.size) (h2 : i < n.size), i < k → p[i] = n[i]
  stop : k = lim ∨ k = p.size ∨ k = n.size ∨ ∃ (h1 : k < p.size) (h2 : k < n.size), p[k] ≠ n[k]

theorem IsPre.unique {lim : Nat} {p n : ByteArray} {k l : Nat} (a : IsPre lim p n k) (b : IsPre lim p n l) : k = l := by
  have key : ∀ {k l : Nat}, IsPre lim p n k → IsPre lim p n l → ¬ k < l := by
    intro k l a b h
    rcases a.stop with e | e | e | ⟨h1, h2, e⟩
    · have := b.hl; omega
    · have := b.hp; omega
    · have := b.hn; omega
    · exact e (b.eq k h1 h2 h)
  have h1 := key a b
  have h2 := key b a
  omega

theorem shared_more {p n : ByteArray} {k : Nat} (HE : Hid (∀ i (h1 : i < p.size) (h2 : i < n.size), i < k → p[i] = n[i])) (h2 : k < p.size) (h3 : k < n.size) (he : ((p[k].toNat : Int) == (n[k].toNat : Int)) = true) :
    Hid (∀ i (h1 : i < p.size) (h2 : i < n.size), i < k + 1 → p[i] = n[i]) := by
  intro i h1' h2' hi
  by_cases e : i = k
  · subst e
    have := beq_iff_eq.1 he
    exact UInt8.toNat.inj (by omega)
  · exact HE.out i h1' h2' (by omega)
theorem shared_stop {L : Nat} {p n : ByteArray} {k : Nat} (HE : Hid (∀ i (h1 : i < p.size) (h2 : i < n.size), i < k → p[i] = n[i])) (hl : k ≤ L) (h2 : k < p.size) (h3 : k < n.size) (he : ((p[k].toNat : Int) == (n[k].toNat : Int)) = false) :
    IsPre L p n k := by
  refine ⟨hl, by omega, by omega, HE, .inr (.inr (.inr ⟨h2, h3, fun e => ?_⟩))⟩
  rw [e] at he; simp at he
theorem shared_end {L : Nat} {p n : ByteArray} {k : Nat} (HE : Hid (∀ i (h1 : i < p.size) (h2 : i < n.size), i < k → p[i] = n[i])) (hl : k ≤ L) (hp : k ≤ p.size) (hn : k ≤ n.size) (hlt : ¬ (k < L ∧ k < p.size ∧ k < n.size)) :
    IsPre L p n k := ⟨hl, hp, hn, HE, by omega⟩

theorem bcell {W w1 : World} (hb : Below W.heap.size W w1) : (∀ b o, b < W.heap.size → w1.cell? ⟨b, o, none⟩ = W.cell? ⟨b, o, none⟩) ∧ (∀ b o, b < W.heap.size → w1.frozen? ⟨b, o, none⟩ = W.frozen? ⟨b, o, none⟩) :=
  ⟨fun b o h => hb.cell (p := ⟨b, o, none⟩) h, fun b o h => hb.frozen (p := ⟨b, o, none⟩) h⟩

set_option maxHeartbeats 800000 in
theorem shared_any (m : Value) (kd : Value) (sh L : Nat) (p n : ByteArray) (w : World) (hs : sh ≤ 7) (hL : Hid (L = 2 ^ sh - 1)) (hp : p.size ≤ 9223372036854775807) (hn : n.size ≤ 9223372036854775807) :
    Calls Yba.prog 13 #[.agg #[m, kd, .int .u64 sh], .string p, .string n] w fun e w' => ∃ k : Nat, e = .returned (.int .i64 k) ∧ IsPre L p n k ∧ Below w.heap.size w w' := by
  rcases (by omega : (L < p.size ∧ L < n.size ∧ p.size ≤ n.size) ∨ (L < p.size ∧ L < n.size ∧ n.size < p.size) ∨ (p.size ≤ L ∧ p.size ≤ n.size ∧ p.size ≤ n.size) ∨ (n.size ≤ L ∧ n.size < p.size ∧ n.size < p.size)) with ⟨c1, c2, c3⟩ | ⟨c1, c2, c3⟩ | ⟨c1, c2, c3⟩ | ⟨c1, c2, c3⟩
  all_goals
    go_enter Yba.func13, Yba.ntmps13
    go_wp2_with (go_at_call 14; refine (most_any _ _ sh L _ hs hL).mono ?_; rintro e w' ⟨rfl, hb⟩)
    go_loopw [8] (fun i wr => ∃ k : Nat, k ≤ L ∧ k ≤ p.size ∧ k ≤ n.size ∧ i = .int .i64 k ∧ Below w.heap.size w wr ∧ Hid (∀ i (h1 : i < p.size) (h2 : i < n.size), i < k → p[i] = n[i])) (fun i _ => L - (intOf i).toNat)
    case atStart => exact ⟨0, Nat.zero_le _, Nat.zero_le _, Nat.zero_le _, rfl, ((Below.refl _ _).alloc (Nat.le_refl _) _).trans (hb.mono (by simp)), fun i _ _ h => absurd h (by omega)⟩
    case round =>
      obtain ⟨k, hkL, hkp, hkn, rfl, hbr, HE⟩ := hrel
      clear hb
      by_cases hlt : k < L ∧ k < p.size ∧ k < n.size
      · obtain ⟨h1, h2, h3⟩ := hlt
        have g1 : (k : Int) < (p.size : Int) := by omega
        have g2 : (k : Int) < (n.size : Int) := by omega
        go_wp2
        go_quiet (fail)
        go_wp2
        · have hE := shared_more HE h2 h3 ‹_›
          go_roundw
          case rel => exact ⟨k + 1, by omega, by omega, by omega, by go_num, below_drewN hbr _, hE⟩
          case measure => simp [intOf]; omega
        · have hE := shared_stop HE hkL h2 h3 ‹_›
          go_ret
          exact ⟨k, rfl, hE, below_drewN hbr _⟩
      · have hE := shared_end HE hkL hkp hkn hlt
        first
          | have hd : decide (k < L) = false := by simp; omega
          | have hd : decide (k < p.size) = false := by simp; omega
          | have hd : decide (k < n.size) = false := by simp; omega
        go_wp2
        go_quiet (fail)
        go_wp2
        go_ret
        exact ⟨k, rfl, hE, below_drewN hbr _⟩

/-- The number that opens an entry. -/
def hdn (n sh k : Nat) : Nat := (bits .or .u64 (IntKind.u64.wrap (((n - k : Nat) : Int) * 2 ^ sh)) k).toNat
theorem hdn_eq (n sh k : Nat) : bits .or .u64 (IntKind.u64.wrap (((n - k : Nat) : Int) * 2 ^ sh)) k = (hdn n sh k : Int) := by
  unfold hdn
  have := bits_lo_u64 .or (IntKind.u64.wrap (((n - k : Nat) : Int) * 2 ^ sh)) k
  omega
theorem hdn_lt (n sh k : Nat) : Hid (hdn n sh k < 128 ^ 9 * 2) := by
  unfold hdn Hid
  have := bits_hi_u64 .or (IntKind.u64.wrap (((n - k : Nat) : Int) * 2 ^ sh)) k
  omega

theorem ret_head {n k sh : Nat} {s : Value} : Ending.returned (.tuple #[.int .u64 (bits .or .u64 (IntKind.u64.wrap (((n - k : Nat) : Int) * 2 ^ sh)) k), s]) = .returned (.tuple #[.int .u64 (hdn n sh k), s]) := by
  rw [hdn_eq]

set_option maxHeartbeats 800000 in
theorem head_any (m : Value) (kd : Value) (sh L : Nat) (p n : ByteArray) (w : World) (hs : sh ≤ 7) (hL : Hid (L = 2 ^ sh - 1)) (hp : p.size ≤ 2000000) (hn : n.size ≤ 2000000) :
    Calls Yba.prog 10 #[.agg #[m, kd, .int .u64 sh], .string p, .string n] w fun e w' => ∃ k : Nat, e = .returned (.tuple #[.int .u64 (hdn n.size sh k), .string (n.extract k n.size)]) ∧ IsPre L p n k ∧ Below w.heap.size w w' := by
  go_enter Yba.func10, Yba.ntmps10
  go_wp2_with (go_at_call 13; refine (shared_any _ _ sh L p n _ hs hL (by omega) (by omega)).mono ?_; rintro e w' ⟨k, rfl, hk, hb⟩; have hkn := hk.hn; obtain ⟨hc, hf⟩ := bcell hb)
  go_ret2
  exact ⟨k, ret_head, hk, ((Below.refl _ _).alloc (Nat.le_refl _) _).trans (hb.mono (by simp))⟩

/-- The entries' array: n entries at block E, in the world w. -/
structure Ents (w : World) (E n : Nat) (ss : List ByteArray) (cs : List Nat) : Prop where
  ls : ss.length = n
  lc : cs.length = n
  hn : n ≤ 1024
  str : ∀ i, i < n → w.cell? ⟨E, i * 2, none⟩ = some (.string (ss.getD i ByteArray.empty))
  ctr : ∀ i, i < n → w.cell? ⟨E, i * 2 + 1, none⟩ = some (.int .u64 (cs.getD i 0))
  hs : ∀ i, (ss.getD i ByteArray.empty).size ≤ 2000000
  hc : ∀ i, Hid (cs.getD i 0 < 128 ^ 9 * 2)

theorem lt_of_cell {w : World} {b o : Nat} {v : Value} (h : w.cell? ⟨b, o, none⟩ = some v) : b < w.heap.size := World.block_lt_of_cell? w ⟨b, o, none⟩ h

/-- A round's entry, read in a later world. -/
theorem Ents.at {w wr : World} {B E n : Nat} {ss : List ByteArray} {cs : List Nat} (he : Ents w E n ss cs) (hb : Below B w wr) (hB : w.heap.size ≤ B) {k : Nat} (hk : k < n) :
    ∃ (s : ByteArray) (c : Nat), Hid (s = ss.getD k ByteArray.empty) ∧ Hid (c = cs.getD k 0) ∧ s.size ≤ 2000000 ∧ Hid (c < 128 ^ 9 * 2) ∧ wr.cell? ⟨E, k * 2, none⟩ = some (.string s) ∧ wr.cell? ⟨E, k * 2 + 1, none⟩ = some (.int .u64 c) := by
  have h1 := he.str k hk
  have hlt := lt_of_cell h1
  exact ⟨_, _, rfl, rfl, he.hs k, he.hc k, (hb.cell (p := ⟨E, k * 2, none⟩) (by simp; omega)).trans h1, (hb.cell (p := ⟨E, k * 2 + 1, none⟩) (by simp; omega)).trans (he.ctr k hk)⟩

set_option maxHeartbeats 800000 in
theorem body_any (m : Value) (kd : Value) (sh L E n : Nat) (ss : List ByteArray) (cs : List Nat) (w : World) (hs : sh ≤ 7) (hL : Hid (L = 2 ^ sh - 1)) (he : Ents w E n ss cs) :
    Calls Yba.prog 7 #[.agg #[.slice (some ⟨E, 0, none⟩) n n], .agg #[m, kd, .int .u64 sh]] w fun e w' => ∃ z : Int, e = .returned (.int .i64 z) ∧ 0 ≤ z ∧ z ≤ 4000000000 ∧ Below w.heap.size w w' := by
  have hn := he.hn
  have hbb : ∀ o1 o2, Below w.heap.size w ((w.alloc o1).alloc o2) := fun o1 o2 => ((Below.refl _ _).alloc (Nat.le_refl _) _).alloc (by simp) _
  go_enter Yba.func7, Yba.ntmps7
  obtain ⟨z0, hu0, hz0, hz1⟩ := usize_all n
  go_wp2_with (go_at_call 9; refine (hu0 _).mono ?_; rintro e w' ⟨rfl, rfl⟩)
  clear hu0
  go_loopw [5, 6, 19] (fun z p i wr => ∃ (k : Nat) (zz : Int) (pp : ByteArray), k ≤ n ∧ i = .int .i64 k ∧ z = .int .i64 zz ∧ p = .string pp ∧ pp.size ≤ 2000000 ∧ 0 ≤ zz ∧ zz ≤ 100 + k * 2000200 ∧ Below (w.heap.size + 2) ((w.alloc (.cells #[.slice (some ⟨E, 0, none⟩) n n] 32)).alloc (.cells #[m, kd, .int .u64 sh] 30)) wr) (fun _ _ i _ => n - (intOf i).toNat)
  case atStart => exact ⟨0, z0, _, Nat.zero_le _, rfl, rfl, rfl, by decide, by omega, by omega, Below.refl _ _⟩
  case round =>
    obtain ⟨k, zz, pp, hk, rfl, rfl, rfl, hpp, hz0, hz1, hb⟩ := hrel
    have hbw : Below w.heap.size w wr := (hbb _ _).trans (hb.mono (by omega))
    by_cases hlt : k < n
    · obtain ⟨s, c, hs1, hc1, hss, hcc, hx, hy⟩ := he.at hbw (Nat.le_refl _) hlt
      have hB0 := hb.cell (p := ⟨w.heap.size + 1, 0, none⟩) (by simp)
      have hB1 := hb.cell (p := ⟨w.heap.size + 1, 1, none⟩) (by simp)
      have hB2 := hb.cell (p := ⟨w.heap.size + 1, 2, none⟩) (by simp)
      have hsz := hb.size
      simp at hB0 hB1 hB2 hsz
      have hz1 : w.heap.size + 1 < wr.heap.size := by omega
      have hz2 : w.heap.size < wr.heap.size := by omega
      clear hsz
      clear he hs1 hc1 hcc
      go_wp2_with (go_at_call 10; refine (head_any _ _ sh L pp s _ hs hL (by omega) (by omega)).mono ?_; rintro e w1 ⟨q, rfl, hq, hb1⟩; obtain ⟨hc, hf⟩ := bcell hb1)
      have hql := hq.hn
      obtain ⟨z1, hu1, hz10, hz11⟩ := usize_all (hdn s.size sh q)
      obtain ⟨z2, hu2, hz20, hz21⟩ := usize_all c
      go_quiet (first | (go_at_call 9; exact Calls.quiet_of_same (hu1 _)) | (go_at_call 9; exact Calls.quiet_of_same (hu2 _)))
      go_wp2
      go_roundw
      case rel =>
        exact ⟨k + 1, _, s, by omega, by go_num, rfl, rfl, by omega, by omega, by omega, below_drewN ((hb.alloc (by omega) _).trans (hb1.mono (by simp; omega))) _⟩
      case measure => simp [intOf]; omega
    · go_wp2
      go_ret
      exact ⟨zz, rfl, hz0, by omega, hbw⟩
end Go.Proofs.Ybulkcdee
