import Derived.Test.YbulkcdeeEq
namespace Go.Proofs.Ybulkcdee
open Go.RowKit

theorem Yba.info27 : (Yba.prog.info? 27).map (fun i => (i.zero, i.size, i.bytes)) = some (some (.agg #[.string ⟨#[]⟩, .int .u64 0]), 2, 24) := by kernel_rfl

/-- Sum of the first k strings' sizes. -/
def tot (ss : List ByteArray) : Nat → Nat
  | 0 => 0
  | k + 1 => tot ss k + (ss.getD k ByteArray.empty).size

structure Strs (w : World) (a : Option Addr) (len : Nat) (ss : List ByteArray) : Prop where
  at_ : ∀ i, i < len → ∃ b off, a = some ⟨b, off, none⟩ ∧ w.cell? ⟨b, off + i, none⟩ = some (.string (ss.getD i ByteArray.empty)) ∧ b < w.heap.size
  sz : ∀ i, (ss.getD i ByteArray.empty).size ≤ 140737488351232
structure Ctrs (w : World) (a : Option Addr) (len : Nat) (cs : List Nat) : Prop where
  at_ : ∀ i, i < len → ∃ b off, a = some ⟨b, off, none⟩ ∧ w.cell? ⟨b, off + i, none⟩ = some (.int .u64 (cs.getD i 0)) ∧ b < w.heap.size
  sz : ∀ i, Hid (cs.getD i 0 < 128 ^ 9 * 2)

theorem tot_mono (ss : List ByteArray) {i k : Nat} (h : i < k) : (ss.getD i ByteArray.empty).size ≤ tot ss k := by
  induction k with
  | zero => omega
  | succ k ih =>
    simp only [tot]
    by_cases e : i = k
    · subst e; omega
    · have := ih (by omega); omega

theorem law_big (a0 a1 : Option Addr) (len0 cap0 len1 cap1 : Nat) (mk sb : Int) (w : World) (hbig : 1024 < len0) :
    Calls Yba.prog 3 #[.slice a0 len0 cap0, .slice a1 len1 cap1, .int .u8 mk, .int .u8 sb] w fun e w' => e = .returned (.bool true) ∧ Below w.heap.size w w' := by
  go_enter Yba.func3, Yba.ntmps3
  go_wp2
  go_ret
  exact ⟨rfl, Below.refl _ _⟩

theorem heap_setCell {w : World} {b off : Nat} {cur : Array Value} {e : Nat} {fz : Nat × Nat} (v : Value) (h : w.heap[b]? = some (.cells cur e fz)) : (w.setCell ⟨b, off, none⟩ v).heap[b]? = some (.cells (cur.setIfInBounds off v) e fz) := by
  simp [World.setCell, Array.getElem?_modify, h]

/-- The entries, filled as far as j. -/
structure Filled (w wr : World) (n j : Nat) (ss : List ByteArray) (cs : List Nat) : Prop where
  blk : ∃ cur : Array Value, wr.heap[w.heap.size]? = some (.cells cur 27 (0, 0)) ∧ cur.size = n * 2 ∧ ∀ i, i < j → cur[i * 2]? = some (.string (ss.getD i ByteArray.empty)) ∧ cur[i * 2 + 1]? = some (.int .u64 (cs.getD i 0))
  bel : Below w.heap.size w wr

theorem fill_start {w w1 : World} {n : Nat} {ss : List ByteArray} {cs : List Nat} {xs : List Value} (h : w1.ownsRow 0 27 2 (.slice (some ⟨w.heap.size, 0, none⟩) n n) n xs) (hg : w.grownBy w1 none) : Filled w w1 n 0 ss cs := by
  rcases h.2 with ⟨h, _⟩ | ⟨g, cap, cur, hv, hb, hgg, hnc, hcm, hcs, htake⟩
  · cases h
  · cases hv
    exact ⟨⟨cur, hgg, hcs, fun i hi => by omega⟩, (Keeps.of_grown (S := fun _ => False) hg (fun k h => by cases h)).below (Nat.le_refl _) (fun k h => h.elim)⟩

theorem Filled.at {w wr : World} {n j : Nat} {ss : List ByteArray} {cs : List Nat} (h : Filled w wr n j ss cs) (hj : j < n) :
    (∃ v, wr.cell? ⟨w.heap.size, j * 2, none⟩ = some v) ∧ (∃ v, wr.cell? ⟨w.heap.size, j * 2 + 1, none⟩ = some v) ∧ wr.frozen? ⟨w.heap.size, j * 2, none⟩ = false ∧ wr.frozen? ⟨w.heap.size, j * 2 + 1, none⟩ = false := by
  obtain ⟨cur, hc, hs, _⟩ := h.blk
  refine ⟨⟨cur[j * 2]'(by omega), ?_⟩, ⟨cur[j * 2 + 1]'(by omega), ?_⟩, ?_, ?_⟩
  · simp [World.cell?, hc]
  · simp [World.cell?, hc]
  · simp [World.frozen?, hc]
  · simp [World.frozen?, hc]

theorem Filled.cell {w wr : World} {n j : Nat} {ss : List ByteArray} {cs : List Nat} (h : Filled w wr n j ss cs) {b o : Nat} {v : Value} (hb : b < w.heap.size) (hc : w.cell? ⟨b, o, none⟩ = some v) : wr.cell? ⟨b, o, none⟩ = some v :=
  (h.bel.cell (p := ⟨b, o, none⟩) hb).trans hc

theorem Filled.lt {w wr : World} {n j : Nat} {ss : List ByteArray} {cs : List Nat} (h : Filled w wr n j ss cs) : w.heap.size < wr.heap.size := by
  obtain ⟨cur, hc, _⟩ := h.blk
  exact (Array.getElem?_eq_some_iff.1 hc).1

theorem Filled.step {w wr : World} {n j : Nat} {ss : List ByteArray} {cs : List Nat} (h : Filled w wr n j ss cs) (hj : j < n) :
    Filled w ((wr.setCell ⟨w.heap.size, j * 2, none⟩ (.string (ss[j]?.getD ByteArray.empty))).setCell ⟨w.heap.size, j * 2 + 1, none⟩ (.int .u64 (cs[j]?.getD 0))).drew n (j + 1) ss cs := by
  obtain ⟨cur, hc, hs, hx⟩ := h.blk
  refine ⟨⟨_, heap_setCell _ (heap_setCell _ hc), by simpa using hs, fun i hi => ?_⟩, ((h.bel.setCell (Nat.le_refl _) _).setCell (Nat.le_refl _) _).drew⟩
  by_cases e : i = j
  · subst e
    constructor
    · rw [Array.getElem?_setIfInBounds_ne (by omega), Array.getElem?_setIfInBounds_self_of_lt (by omega)]; simp
    · rw [Array.getElem?_setIfInBounds_self_of_lt (by simp; omega)]; simp
  · have := hx i (by omega)
    constructor
    · rw [Array.getElem?_setIfInBounds_ne (by omega), Array.getElem?_setIfInBounds_ne (by omega)]; exact this.1
    · rw [Array.getElem?_setIfInBounds_ne (by omega), Array.getElem?_setIfInBounds_ne (by omega)]; exact this.2

theorem Filled.ents {w wr : World} {n : Nat} {ss : List ByteArray} {cs : List Nat} (h : Filled w wr n n ss cs) (hn : n ≤ 1024) (hsz : ∀ i, i < n → (ss.getD i ByteArray.empty).size ≤ 2000000) (hC : ∀ i, Hid (cs.getD i 0 < 128 ^ 9 * 2)) :
    ∃ ss' cs', Ents wr w.heap.size n ss' cs' := by
  obtain ⟨cur, hc, hs, hx⟩ := h.blk
  have g1 : ∀ i, i < n → ((List.range n).map (fun i => ss.getD i ByteArray.empty)).getD i ByteArray.empty = ss.getD i ByteArray.empty := fun i hi => by simp [hi]
  have g2 : ∀ i, i < n → ((List.range n).map (fun i => cs.getD i 0)).getD i 0 = cs.getD i 0 := fun i hi => by simp [hi]
  refine ⟨(List.range n).map (fun i => ss.getD i ByteArray.empty), (List.range n).map (fun i => cs.getD i 0), by simp, by simp, hn, fun i hi => ?_, fun i hi => ?_, fun i => ?_, fun i => ?_⟩
  · rw [g1 i hi]; simp only [World.cell?, hc]; exact (hx i hi).1
  · rw [g2 i hi]; simp only [World.cell?, hc]; exact (hx i hi).2
  · by_cases hi : i < n
    · rw [g1 i hi]; exact hsz i hi
    · rw [List.getD_eq_getElem?_getD, List.getElem?_eq_none (by simpa using hi)]; decide
  · by_cases hi : i < n
    · rw [g2 i hi]; exact hC i
    · rw [List.getD_eq_getElem?_getD, List.getElem?_eq_none (by simpa using hi)]; unfold Hid; decide

theorem own_lit (w : World) (u : Value) (e : Nat) : (w.alloc (.cells #[u] e)).ownsRow 0 e 1 (.slice (some ⟨w.heap.size, 0, none⟩) 1 1) [u].length [u] :=
  ⟨rfl, .inr ⟨w.heap.size, 1, #[u], rfl, Nat.zero_le _, heap_alloc_new w _, Nat.le_refl _, by decide, rfl, rfl⟩⟩

theorem own_zero {w : World} {B e size : Nat} {v : Value} {n : Nat} {xs : List Value} (h : w.ownsRow B e size v n xs) : w.ownsRow 0 e size v n xs := by
  refine ⟨h.1, ?_⟩
  rcases h.2 with hn | ⟨g, cap, cur, rfl, hb, rest⟩
  · exact .inl hn
  · exact .inr ⟨g, cap, cur, rfl, Nat.zero_le _, rest⟩

/-- Bytes alone. -/
def U8s (xs : List Value) : Prop := ∀ x ∈ xs, ∃ y, x = .int .u8 y
theorem U8s.append {xs ys : List Value} (h : U8s xs) (k : U8s ys) : U8s (xs ++ ys) := fun x hx => (List.mem_append.1 hx).elim (h x) (k x)
theorem U8s.lit (y : Int) : U8s [Value.int .u8 y] := fun x hx => ⟨y, by simpa using hx⟩
theorem uvb_u8 (f y : Nat) : U8s (uvb f y) := by
  induction f generalizing y with
  | zero => intro x hx; simp [uvb] at hx
  | succ f ih =>
    unfold uvb
    split
    · intro x hx
      rcases List.mem_cons.1 hx with h | h
      · exact ⟨_, h⟩
      · exact ih _ x h
    · exact U8s.lit _
theorem str_u8 (s : ByteArray) : U8s (Lib.strCells s) := by
  intro x hx
  simp only [Lib.strCells, List.mem_map] at hx
  obtain ⟨b, _, rfl⟩ := hx
  exact ⟨_, rfl⟩
theorem ents_u8 (sh L : Nat) (ss : List ByteArray) (cs : List Nat) (k : Nat) : U8s (entsTo sh L ss cs k) := by
  induction k with
  | zero => intro x hx; simp [entsTo] at hx
  | succ k ih => exact ih.append (((uvb_u8 _ _).append (str_u8 _)).append (uvb_u8 _ _))
theorem U8s.ints {xs : List Value} (h : U8s xs) : ∃ zs : List Int, xs = zs.map (Value.int .u8) := by
  induction xs with
  | nil => exact ⟨[], rfl⟩
  | cons x xs ih =>
    obtain ⟨y, rfl⟩ := h x (by simp)
    obtain ⟨zs, rfl⟩ := ih (fun z hz => h z (by simp [hz]))
    exact ⟨y :: zs, rfl⟩

theorem ext_le {n k : Nat} {s : ByteArray} (h : n ≤ 3000000000) (hs : s.size ≤ 2000000) : n + (s.extract k s.size).size ≤ maxLen ∧ n + (s.extract k s.size).size ≤ 140737488355328 := by
  simp [maxLen]; omega
theorem tail_one {w w4 wr w6 : World} {mk : Int} {u v6 : Value} {Y : List Value} {x m c : Nat}
    (ha : App 5 1 (w4.alloc (.cells #[.int .u8 mk] 5)) (.slice (some ⟨w4.heap.size, 0, none⟩) 1 1) [Value.int .u8 mk].length [Value.int .u8 mk] u wr Y.length Y)
    (hE4 : w.heap.size < w4.heap.size) (hy : wr.cell? ⟨w.heap.size, m * 2 + 1, none⟩ = some (.int .u64 c)) (hlen : Y.length ≤ 110 + 1024 * 2000020)
    (ha6 : App 5 1 wr u Y.length Y v6 w6 (Y ++ uvb 10 x).length (Y ++ uvb 10 x)) :
    w6.cell? ⟨w.heap.size, m * 2 + 1, none⟩ = some (.int .u64 c) ∧ w6.ownsRow 0 5 1 v6 (Y ++ uvb 10 x).length (Y ++ uvb 10 x) ∧ (∀ g, v6.ownBlock = some g → g ≠ w.heap.size) ∧ (Y ++ uvb 10 x).length ≤ 3000000000 ∧
    Hid (App 5 1 (w4.alloc (.cells #[.int .u8 mk] 5)) (.slice (some ⟨w4.heap.size, 0, none⟩) 1 1) [Value.int .u8 mk].length [Value.int .u8 mk] v6 w6 (Y ++ uvb 10 x).length (Y ++ uvb 10 x)) := by
  have hu : ∀ g, u.ownBlock = some g → w4.heap.size ≤ g := fun g hg => by
    rcases ha.moved g hg with h | h
    · simp [Value.ownBlock] at h; omega
    · simp at h; omega
  have h1 := uvb_len 10 x
  have ht := ha.trans ha6
  refine ⟨ha6.keeps.cells (fun h => by have := hu _ h; omega) hy, ha6.own, fun g hg => ?_, by rw [List.length_append]; omega, ht⟩
  rcases ht.moved g hg with h | h
  · simp [Value.ownBlock] at h; omega
  · simp at h; omega
theorem tail_two {W w6 w7 : World} {v0 v6 v7 : Value} {xs Y : List Value} {s : ByteArray} {k : Nat}
    (HA : Hid (App 5 1 W v0 xs.length xs v6 w6 Y.length Y)) (hl : Y.length ≤ 3000000000) (ha7 : App 5 1 w6 v6 Y.length Y v7 w7 (Y ++ Lib.strCells (s.extract k s.size)).length (Y ++ Lib.strCells (s.extract k s.size))) (hs : s.size ≤ 2000000) :
    (Y ++ Lib.strCells (s.extract k s.size)).length ≤ 100000000000 ∧ Hid (App 5 1 W v0 xs.length xs v7 w7 (Y ++ Lib.strCells (s.extract k s.size)).length (Y ++ Lib.strCells (s.extract k s.size))) :=
  ⟨by rw [List.length_append, Lib.strCells_length]; simp; omega, HA.out.trans ha7⟩
theorem tail_three {W w7 w8 : World} {v0 v7 v8 : Value} {xs X Y : List Value} {sh L m c : Nat} {pp s : ByteArray} {ss : List ByteArray} {cs : List Nat}
    (HA : Hid (App 5 1 W v0 xs.length xs v7 w7 (Y ++ uvb 10 (hdn s.size sh (pre L pp s)) ++ Lib.strCells (s.extract (pre L pp s) s.size)).length (Y ++ uvb 10 (hdn s.size sh (pre L pp s)) ++ Lib.strCells (s.extract (pre L pp s) s.size))))
    (ha8 : App 5 1 w7 v7 (Y ++ uvb 10 (hdn s.size sh (pre L pp s)) ++ Lib.strCells (s.extract (pre L pp s) s.size)).length (Y ++ uvb 10 (hdn s.size sh (pre L pp s)) ++ Lib.strCells (s.extract (pre L pp s) s.size)) v8 w8 (Y ++ uvb 10 (hdn s.size sh (pre L pp s)) ++ Lib.strCells (s.extract (pre L pp s) s.size) ++ uvb 10 c).length (Y ++ uvb 10 (hdn s.size sh (pre L pp s)) ++ Lib.strCells (s.extract (pre L pp s) s.size) ++ uvb 10 c))
    (hstep : Hid (X ++ entsTo sh L ss cs (m + 1) = Y ++ entB sh L pp s c)) :
    App 5 1 W v0 xs.length xs v8 w8 (X ++ entsTo sh L ss cs (m + 1)).length (X ++ entsTo sh L ss cs (m + 1)) := by
  rw [hstep.out]
  simpa only [entB, List.append_assoc] using HA.out.trans ha8

set_option maxHeartbeats 6400000 in
set_option maxRecDepth 100000 in
theorem law_any (a0 a1 : Option Addr) (len0 cap0 len1 cap1 n : Nat) (ss : List ByteArray) (cs : List Nat) (mk sb : Int) (w : World) (hS : Strs w a0 len0 ss) (hC : Ctrs w a1 len1 cs) (hl0 : len0 ≤ 1024) (hl1 : len1 ≤ 9223372036854775807) (hsb0 : 0 ≤ sb) (hsb1 : sb ≤ 255)
    (hcase : (len1 < len0 ∧ n = len1) ∨ (len0 ≤ len1 ∧ n = len0)) :
    Calls Yba.prog 3 #[.slice a0 len0 cap0, .slice a1 len1 cap1, .int .u8 mk, .int .u8 sb] w fun e w' => e = .returned (.bool true) ∧ Below w.heap.size w w' := by
  obtain ⟨i0, hi, hi0, hi1, hi2⟩ := info_parts Yba.info27
  have hnL : n ≤ 1024 := by omega
  have hS' : ∀ i, i < n → ∃ b off, a0 = some ⟨b, off, none⟩ ∧ w.cell? ⟨b, off + i, none⟩ = some (.string (ss.getD i ByteArray.empty)) ∧ b < w.heap.size := fun i h => hS.at_ i (by omega)
  have hC' : ∀ i, i < n → ∃ b off, a1 = some ⟨b, off, none⟩ ∧ w.cell? ⟨b, off + i, none⟩ = some (.int .u64 (cs.getD i 0)) ∧ b < w.heap.size := fun i h => hC.at_ i (by omega)
  have hCs := hC.sz
  obtain ⟨sh, hsh⟩ : ∃ sh : Nat, sb % 8 = (sh : Int) := ⟨(sb % 8).toNat, by omega⟩
  have hsh7 : sh ≤ 7 := by omega
  rcases hcase with ⟨hmin, hx⟩ | ⟨hmin, hx⟩
  all_goals
    have hge : n ≤ len0 := by omega
    have HX := Hid.mk' hx
    clear hx
    go_enter Yba.func3, Yba.ntmps3
    go_wp2
    go_loop [9, 11, 30] (fun t _ i => ∃ k : Nat, k ≤ len0 ∧ i = .int .i64 k ∧ t = .int .i64 (tot ss k) ∧ tot ss k ≤ k * 140737488351232) (fun _ _ i => 1024 - (intOf i).toNat)
    case atStart => exact ⟨0, by omega, rfl, rfl, by simp [tot]⟩
    case round =>
      obtain ⟨k, hk, rfl, rfl, ht⟩ := hrel
      by_cases hlt : k < len0
      · obtain ⟨b, off, rfl, hc, hb⟩ := hS.at_ k hlt
        have hz := hS.sz k
        have hT : Hid (tot ss (k + 1) = tot ss k + (ss.getD k ByteArray.empty).size) := rfl
        generalize ss.getD k ByteArray.empty = s at *
        generalize tot ss k = T at *
        go_wp2
        go_round
        case rel => exact ⟨k + 1, by omega, by go_num, by rw [hT.out]; go_num, by rw [hT.out]; omega⟩
        case measure => simp [intOf]; omega
      · by_cases hbt : 1048576 < tot ss k
        · go_wp2
          go_ret
          exact ⟨rfl, Below.refl _ _⟩
        · have hsz : ∀ i, i < n → (ss.getD i ByteArray.empty).size ≤ 2000000 := fun i hi => by have := tot_mono ss (i := i) (k := k) (by omega); omega
          go_wp2_with (at_make; refine wpList_make_full w rfl (.tmp 46) (.tmp 46) 24 rfl 0 27 i0 (.agg #[.string ⟨#[]⟩, .int .u64 0]) 2 Yba.underlying24 hi hi0 hi1 .i64 .i64 _ _ n rfl rfl (by have := HX.out; omega) (by have := HX.out; omega) (by rw [hi2]; omega) (by unfold maxLen; omega) (Nat.zero_le _) ?_; intro w1 ho1 hg1)
          rw [← HX.out]
          have hF0 := fill_start (ss := ss) (cs := cs) ho1 hg1
          clear ho1 hg1 hS hC hi hi0 hi1 hi2 ht hbt hlt hk
          go_loopw [14] (fun i wr => ∃ j : Nat, j ≤ n ∧ i = .int .i64 j ∧ Filled w wr n j ss cs) (fun i _ => n - (intOf i).toNat)
          case atStart => exact ⟨0, by omega, rfl, hF0⟩
          case round =>
            obtain ⟨j, hj, rfl, hF⟩ := hrel
            clear hF0
            by_cases hlt : j < n
            · obtain ⟨b, off, e0, hc, hb⟩ := hS' j hlt
              obtain ⟨b', off', e1, hc', hb'⟩ := hC' j hlt
              subst e0 e1
              clear hS' hC'
              obtain ⟨⟨q0, g0⟩, ⟨q1, g1⟩, f0, f1⟩ := hF.at hlt
              have hc2 := hF.cell hb hc
              have hc2' := hF.cell hb' hc'
              have hji : (j : Int) < (n : Int) := by omega
              have hji2 : (j : Int) < (len0 : Int) := by omega
              go_wp2
              go_region
              have hF2 := hF.step hlt
              clear hF g0 g1 f0 f1 hc2 hc2' hc hc'
              go_wp2
              go_roundw
              case rel => exact ⟨j + 1, by omega, by go_num, hF2⟩
              case measure => simp [intOf]; omega
            · have hjn : j = n := by omega
              subst hjn
              have he := hF.ents hnL hsz hCs
              have hbel := hF.bel
              have hEl := hF.lt
              clear hF hS' hC' hsz hCs
              obtain ⟨ss', cs', he⟩ := he
              obtain ⟨L, HL, hL2⟩ : ∃ L : Nat, Hid (L = 2 ^ sh - 1) ∧ L ≤ 127 := ⟨_, rfl, by have := (pow7n sh hsh7).2.1; omega⟩
              have hmw := most_wrap sh L hsh7 HL
              obtain ⟨i5, q5, q50, q51, q52⟩ := info_parts Yba.info5
              have hul := uvb_len 10 j
              have hjl : Hid (j < 128 ^ 9 * 2) := by unfold Hid; omega
              go_wp2_with fail
              refine (marsh_any mk _ sh L w.heap.size j ss' cs' _ hsh7 HL ((he.keep ((Keeps.refl (fun _ => False) _).alloc _) (fun h => h)).keep ((Keeps.refl (fun _ => False) _).alloc _) (fun h => h)) (by simp; omega)).mono ?_
              rintro e w4 ⟨v4, rfl, ho4, hb4⟩
              have hk4 : Keeps (fun _ => False) wr w4 := (((Keeps.refl (fun _ => False) wr).alloc _).alloc _).trans (Keeps.none_below hb4) (fun _ _ h => h)
              have he4 := he.keep hk4 (fun h => h)
              have hsz4 := hk4.size
              have hg4 := fun g hg => (ho4.lt g hg).2
              have hbel4 : Below w.heap.size w w4 := hbel.trans (hk4.below (by omega) (fun k h => h.elim))
              have hwant : (w4.alloc (.cells #[.int .u8 mk] 5)).ownsRow 0 5 1 (.slice (some ⟨w4.heap.size, 0, none⟩) 1 1) [Value.int .u8 mk].length [Value.int .u8 mk] := own_lit _ _ _
              clear hbel he hb4 hk4
              go_wp2_with fail
              refine (cuv_any _ [.int .u8 mk] j _ hjl hwant (by simp)).mono ?_
              rintro e w5 ⟨v5, rfl, ha5⟩
              have HXl : Hid (([Value.int .u8 mk] ++ uvb 10 j).length ≤ 11) := by unfold Hid; simp; omega
              generalize hX : [Value.int .u8 mk] ++ uvb 10 j = X at *
              have hE4 : w.heap.size < w4.heap.size := by omega
              have ho4b := own_zero ho4
              have hU : U8s X := by rw [← hX]; exact U8s.append (U8s.lit _) (uvb_u8 _ _)
              clear hX hul hwant hEl hsz4 ho4
              go_wp2_with fail
              rw [hmw]
              clear hmw
              go_loopw [19, 21, 22] (fun vb p i wq => ∃ m : Nat, m ≤ j ∧ i = .int .i64 m ∧ p = .string (prevOf ss' m) ∧ App 5 1 (w4.alloc (.cells #[.int .u8 mk] 5)) (.slice (some ⟨w4.heap.size, 0, none⟩) 1 1) [Value.int .u8 mk].length [Value.int .u8 mk] vb wq (X ++ entsTo sh L ss' cs' m).length (X ++ entsTo sh L ss' cs' m)) (fun _ _ i _ => j - (intOf i).toNat)
              case atStart => exact ⟨0, by omega, rfl, rfl, by simpa [entsTo] using ha5⟩
              case round =>
                obtain ⟨m, hm, rfl, rfl, ha⟩ := hrel
                clear ha5
                have hkw : Keeps (fun k => k = w4.heap.size) w4 wr := ((Keeps.refl _ w4).alloc _).trans ha.keeps (fun i _ h => by simp [Value.ownBlock] at h; omega)
                by_cases hlt2 : m < j
                · obtain ⟨s, c, hs1, hc1, hss, hcc, hx, hy⟩ := (he4.keep hkw (by omega)).get hlt2
                  have hpl := prevOf_le ss' he4.hs m
                  have hstep : Hid (X ++ entsTo sh L ss' cs' (m + 1) = X ++ entsTo sh L ss' cs' m ++ entB sh L (prevOf ss' m) s c) := by unfold Hid; rw [entsTo, hs1.out, hc1.out, List.append_assoc]
                  have hprev : Hid (prevOf ss' (m + 1) = s) := hs1
                  have hlen : (X ++ entsTo sh L ss' cs' m).length ≤ 110 + 1024 * 2000020 := by
                    have h1 := HXl.out
                    have h2 := entsTo_len sh L ss' cs' he4.hs m
                    have h3 : m * 2000020 ≤ 1024 * 2000020 := Nat.mul_le_mul_right _ (by omega)
                    rw [List.length_append]; omega
                  generalize hY : X ++ entsTo sh L ss' cs' m = Y at *
                  clear hY he4 hs1 hc1 ho4b
                  generalize hpp : prevOf ss' m = pp at *
                  clear hpp
                  have ho := ha.own
                  go_wp2_with fail
                  go_loopw [24] (fun i wq => ∃ (q d : Nat), q ≤ L ∧ q ≤ pp.size ∧ q ≤ s.size ∧ i = .int .i64 q ∧ wq = wr.drewN d ∧ Hid (∀ i (h1 : i < pp.size) (h2 : i < s.size), i < q → pp[i] = s[i])) (fun i _ => L - (intOf i).toNat)
                  case atStart => exact ⟨0, 0, Nat.zero_le _, Nat.zero_le _, Nat.zero_le _, rfl, rfl, fun i _ _ h => absurd h (by omega)⟩
                  case round =>
                    obtain ⟨q, d, hqL, hqp, hqs, rfl, rfl, HE⟩ := hrel
                    rcases (by omega : (q < L ∧ q < pp.size ∧ q < s.size) ∨ (pp.size ≤ q ∧ ¬ (q < L ∧ q < pp.size ∧ q < s.size)) ∨ (q < pp.size ∧ s.size ≤ q ∧ ¬ (q < L ∧ q < pp.size ∧ q < s.size)) ∨ (q < pp.size ∧ q < s.size ∧ L ≤ q ∧ ¬ (q < L ∧ q < pp.size ∧ q < s.size))) with ⟨c1, c2, c3⟩ | ⟨c1, hno⟩ | ⟨c1, c2, hno⟩ | ⟨c1, c2, c3, hno⟩
                    · have g1 : (q : Int) < (pp.size : Int) := by omega
                      have g2 : (q : Int) < (s.size : Int) := by omega
                      go_wp2
                      go_quiet (fail)
                      go_wp2_with fail
                      · have hE := shared_more HE c2 c3 ‹_›
                        go_roundw
                        case rel => exact ⟨q + 1, _, by omega, by omega, by omega, by go_num, rfl, hE⟩
                        case measure => simp [intOf]; omega
                      · have hE := shared_stop HE hqL c2 c3 ‹_›
                        rw [show ((s.size : Int) - (q : Int)) = ((s.size - q : Nat) : Int) from by omega, hdn_eq]
                        obtain rfl := hE.unique (pre_is L pp s)
                        refine (cuv_any u19 Y _ _ (hdn_lt _ _ _) (((Keeps.refl (fun _ => False) wr).drewN _).own ho (fun _ _ h => h)) (by omega)).mono ?_
                        rintro e w6 ⟨v6, rfl, ha6⟩
                        obtain ⟨hy6, ho6, hn6, hl6, HA6⟩ := tail_one ha hE4 hy hlen (App.pre ((Keeps.refl (fun _ => False) wr).drewN _) ha6)
                        clear ha6 ha ho HE hx hy
                        go_wp2_with (at_builtin; refine wpList_app_string _ rfl (.tmp 133) (.tmp 136) 33 9 rfl 5 i5 Yba.underlying33 Yba.underlying9 q5 q50 q51 q52 v6 _ _ rfl ho6 (s.extract (pre L pp s) s.size) rfl (ext_le hl6 hss).1 (ext_le hl6 hss).2 ?_; intro v7 w7 ha7 _; have hy7 := ha7.keeps.cells (fun h => hn6 _ h rfl) hy6)
                        obtain ⟨hl7, HA7⟩ := tail_two HA6 hl6 (App.norm ha7) hss
                        refine (cuv_any v7 _ c w7 hcc (App.norm ha7).own hl7).mono ?_
                        rintro e w8 ⟨v8, rfl, ha8⟩
                        have hfin := tail_three HA7 ha8 hstep
                        clear ha7 ha8 HA6 HA7 ho6
                        go_wp2
                        go_roundw
                        case rel => exact ⟨m + 1, by omega, by go_num, by rw [hprev.out], hfin⟩
                        case measure => simp [intOf]; omega
                    · have hE := shared_end HE hqL hqp hqs hno
                      have hd : decide (q < pp.size) = false := by simp; omega
                      go_wp2
                      go_quiet (fail)
                      go_wp2_with fail
                      rw [show ((s.size : Int) - (q : Int)) = ((s.size - q : Nat) : Int) from by omega, hdn_eq]
                      obtain rfl := hE.unique (pre_is L pp s)
                      refine (cuv_any u19 Y _ _ (hdn_lt _ _ _) (((Keeps.refl (fun _ => False) wr).drewN _).own ho (fun _ _ h => h)) (by omega)).mono ?_
                      rintro e w6 ⟨v6, rfl, ha6⟩
                      obtain ⟨hy6, ho6, hn6, hl6, HA6⟩ := tail_one ha hE4 hy hlen (App.pre ((Keeps.refl (fun _ => False) wr).drewN _) ha6)
                      clear ha6 ha ho HE hx hy
                      go_wp2_with (at_builtin; refine wpList_app_string _ rfl (.tmp 133) (.tmp 136) 33 9 rfl 5 i5 Yba.underlying33 Yba.underlying9 q5 q50 q51 q52 v6 _ _ rfl ho6 (s.extract (pre L pp s) s.size) rfl (ext_le hl6 hss).1 (ext_le hl6 hss).2 ?_; intro v7 w7 ha7 _; have hy7 := ha7.keeps.cells (fun h => hn6 _ h rfl) hy6)
                      obtain ⟨hl7, HA7⟩ := tail_two HA6 hl6 (App.norm ha7) hss
                      refine (cuv_any v7 _ c w7 hcc (App.norm ha7).own hl7).mono ?_
                      rintro e w8 ⟨v8, rfl, ha8⟩
                      have hfin := tail_three HA7 ha8 hstep
                      clear ha7 ha8 HA6 HA7 ho6
                      go_wp2
                      go_roundw
                      case rel => exact ⟨m + 1, by omega, by go_num, by rw [hprev.out], hfin⟩
                      case measure => simp [intOf]; omega
                    · have hE := shared_end HE hqL hqp hqs hno
                      have g1 : (q : Int) < (pp.size : Int) := by omega
                      have hd : decide (q < s.size) = false := by simp; omega
                      go_wp2
                      go_quiet (fail)
                      go_wp2_with fail
                      rw [show ((s.size : Int) - (q : Int)) = ((s.size - q : Nat) : Int) from by omega, hdn_eq]
                      obtain rfl := hE.unique (pre_is L pp s)
                      refine (cuv_any u19 Y _ _ (hdn_lt _ _ _) (((Keeps.refl (fun _ => False) wr).drewN _).own ho (fun _ _ h => h)) (by omega)).mono ?_
                      rintro e w6 ⟨v6, rfl, ha6⟩
                      obtain ⟨hy6, ho6, hn6, hl6, HA6⟩ := tail_one ha hE4 hy hlen (App.pre ((Keeps.refl (fun _ => False) wr).drewN _) ha6)
                      clear ha6 ha ho HE hx hy
                      go_wp2_with (at_builtin; refine wpList_app_string _ rfl (.tmp 133) (.tmp 136) 33 9 rfl 5 i5 Yba.underlying33 Yba.underlying9 q5 q50 q51 q52 v6 _ _ rfl ho6 (s.extract (pre L pp s) s.size) rfl (ext_le hl6 hss).1 (ext_le hl6 hss).2 ?_; intro v7 w7 ha7 _; have hy7 := ha7.keeps.cells (fun h => hn6 _ h rfl) hy6)
                      obtain ⟨hl7, HA7⟩ := tail_two HA6 hl6 (App.norm ha7) hss
                      refine (cuv_any v7 _ c w7 hcc (App.norm ha7).own hl7).mono ?_
                      rintro e w8 ⟨v8, rfl, ha8⟩
                      have hfin := tail_three HA7 ha8 hstep
                      clear ha7 ha8 HA6 HA7 ho6
                      go_wp2
                      go_roundw
                      case rel => exact ⟨m + 1, by omega, by go_num, by rw [hprev.out], hfin⟩
                      case measure => simp [intOf]; omega
                    · have hE := shared_end HE hqL hqp hqs hno
                      have g1 : (q : Int) < (pp.size : Int) := by omega
                      have g2 : (q : Int) < (s.size : Int) := by omega
                      have hd : decide (q < L) = false := by simp; omega
                      go_wp2
                      go_quiet (fail)
                      go_wp2_with fail
                      rw [show ((s.size : Int) - (q : Int)) = ((s.size - q : Nat) : Int) from by omega, hdn_eq]
                      obtain rfl := hE.unique (pre_is L pp s)
                      refine (cuv_any u19 Y _ _ (hdn_lt _ _ _) (((Keeps.refl (fun _ => False) wr).drewN _).own ho (fun _ _ h => h)) (by omega)).mono ?_
                      rintro e w6 ⟨v6, rfl, ha6⟩
                      obtain ⟨hy6, ho6, hn6, hl6, HA6⟩ := tail_one ha hE4 hy hlen (App.pre ((Keeps.refl (fun _ => False) wr).drewN _) ha6)
                      clear ha6 ha ho HE hx hy
                      go_wp2_with (at_builtin; refine wpList_app_string _ rfl (.tmp 133) (.tmp 136) 33 9 rfl 5 i5 Yba.underlying33 Yba.underlying9 q5 q50 q51 q52 v6 _ _ rfl ho6 (s.extract (pre L pp s) s.size) rfl (ext_le hl6 hss).1 (ext_le hl6 hss).2 ?_; intro v7 w7 ha7 _; have hy7 := ha7.keeps.cells (fun h => hn6 _ h rfl) hy6)
                      obtain ⟨hl7, HA7⟩ := tail_two HA6 hl6 (App.norm ha7) hss
                      refine (cuv_any v7 _ c w7 hcc (App.norm ha7).own hl7).mono ?_
                      rintro e w8 ⟨v8, rfl, ha8⟩
                      have hfin := tail_three HA7 ha8 hstep
                      clear ha7 ha8 HA6 HA7 ho6
                      go_wp2
                      go_roundw
                      case rel => exact ⟨m + 1, by omega, by go_num, by rw [hprev.out], hfin⟩
                      case measure => simp [intOf]; omega
                · have hmj : m = j := by omega
                  subst hmj
                  have hUE := U8s.append hU (ents_u8 sh L ss' cs' m)
                  obtain ⟨zs, hzs⟩ := hUE.ints
                  have hl1' : zs.length ≤ 100000000000 := by
                    have h1 := HXl.out
                    have h2 := entsTo_len sh L ss' cs' he4.hs m
                    have h3 := congrArg List.length hzs
                    rw [List.length_append, List.length_map] at h3
                    have h4 : m * 2000020 ≤ 1024 * 2000020 := Nat.mul_le_mul_right _ (by omega)
                    omega
                  have hB1 : Bytes wr v4 (zs.map (Value.int .u8)) := by rw [← hzs]; exact bytes_own (hkw.own ho4b (fun g hg => by have := hg4 g hg; omega))
                  have hB2 : Bytes wr u19 (zs.map (Value.int .u8)) := by rw [← hzs]; exact bytes_own ha.own
                  have hbw : Below w.heap.size w wr := hbel4.trans (hkw.below (by omega) (fun k h => by omega))
                  have hsw : w.heap.size ≤ wr.heap.size := hbw.size
                  clear hzs
                  go_wp2_with fail
                  refine (equal_any v4 u19 zs _ hB1 hB2 hl1').mono ?_
                  rintro e w7 ⟨rfl, hb7⟩
                  go_wp2
                  go_ret
                  exact ⟨rfl, hbw.trans (hb7.mono hsw)⟩
end Go.Proofs.Ybulkcdee
