import Derived.Test.YbulkcdayGrow
namespace Go.Proofs.Ybulkcday
open Go.RowKit

/-- Where key i begins. -/
def off (ks : List (List Value)) (i : Nat) : Nat := ((ks.take i).flatten).length
def endsV (ks : List (List Value)) : List Value := (List.range ks.length).map fun i => .int .i64 (off ks (i + 1))

theorem off_zero (ks : List (List Value)) : off ks 0 = 0 := by simp [off]
theorem off_succ (ks : List (List Value)) (i : Nat) (h : i < ks.length) : off ks (i + 1) = off ks i + ks[i].length := by
  unfold off
  rw [List.take_succ_eq_append_getElem h, List.flatten_append, List.length_append]
  simp only [List.flatten_cons, List.flatten_nil, List.append_nil]
theorem off_mono (ks : List (List Value)) {i j : Nat} (h : i ≤ j) : off ks i ≤ off ks j := by
  unfold off
  rw [show ks.take i = (ks.take j).take i by rw [List.take_take]; congr 1; omega]
  generalize ks.take j = l
  have : l.flatten = (l.take i).flatten ++ (l.drop i).flatten := by rw [← List.flatten_append, List.take_append_drop]
  rw [this, List.length_append]; omega
theorem off_all (ks : List (List Value)) {i : Nat} (h : ks.length ≤ i) : off ks i = ks.flatten.length := by
  unfold off; rw [List.take_of_length_le h]
theorem off_le (ks : List (List Value)) (i : Nat) : off ks i ≤ ks.flatten.length := by
  by_cases h : i ≤ ks.length
  · rw [← off_all ks (Nat.le_refl _)]; exact off_mono ks h
  · rw [off_all ks (by omega)]; exact Nat.le_refl _
theorem flat_take (ks : List (List Value)) (i : Nat) : ks.flatten.take (off ks i) = (ks.take i).flatten := by
  unfold off
  have : ks.flatten = (ks.take i).flatten ++ (ks.drop i).flatten := by rw [← List.flatten_append, List.take_append_drop]
  rw [this, List.take_left]
theorem flat_drop (ks : List (List Value)) (i : Nat) : ks.flatten.drop (off ks i) = (ks.drop i).flatten := by
  unfold off
  have : ks.flatten = (ks.take i).flatten ++ (ks.drop i).flatten := by rw [← List.flatten_append, List.take_append_drop]
  rw [this, List.drop_left]
theorem flat_key (ks : List (List Value)) (i : Nat) (h : i < ks.length) : (ks.flatten.drop (off ks i)).take ks[i].length = ks[i] := by
  rw [flat_drop, List.drop_eq_getElem_cons h, List.flatten_cons, List.take_left]
theorem endsV_length (ks : List (List Value)) : (endsV ks).length = ks.length := by simp [endsV]
theorem endsV_get (ks : List (List Value)) (i : Nat) (h : i < ks.length) : (endsV ks)[i]? = some (.int .i64 (off ks (i + 1))) := by simp [endsV, h]

/-- Two blocks that may be none are not one. -/
def Apart (a b : Option Nat) : Prop := ∀ g, a = some g → b ≠ some g
theorem Apart.symm {a b : Option Nat} (h : Apart a b) : Apart b a := fun g hg e => h g e hg

/-- A node in memory. -/
structure Nd (w : World) (p : Nat) (vt ve vk : Value) (ks : List (List Value)) (gs : List Value) : Prop where
  blk : w.heap[p]? = some (.cells #[vt, ve, vk, .int .u64 0] 30 (0, 0))
  txt : w.ownsRow 0 5 1 vt ks.flatten.length ks.flatten
  ens : w.ownsRow 0 3 1 ve ks.length (endsV ks)
  kid : w.ownsRow 0 24 1 vk gs.length gs
  pt : Apart (some p) vt.ownBlock
  pe : Apart (some p) ve.ownBlock
  pk : Apart (some p) vk.ownBlock
  te : Apart vt.ownBlock ve.ownBlock
  tk : Apart vt.ownBlock vk.ownBlock
  ek : Apart ve.ownBlock vk.ownBlock
  u8 : ∀ k ∈ ks, ∀ u ∈ k, ∃ y, u = .int .u8 y
  pos : ∀ k ∈ ks, 0 < k.length ∧ k.length ≤ 100
  few : ks.length ≤ 10000
  ptr : ∀ u ∈ gs, ∃ a, u = .pointer a

theorem flat_le {ks : List (List Value)} (h : ∀ k ∈ ks, 0 < k.length ∧ k.length ≤ 100) : ks.flatten.length ≤ ks.length * 100 := by
  induction ks with
  | nil => simp
  | cons k ks ih =>
    have h1 := h k (by simp)
    have h2 := ih (fun k hk => h k (by simp [hk]))
    simp only [List.flatten_cons, List.length_append, List.length_cons]; omega
theorem Nd.tlen {w : World} {p : Nat} {vt ve vk : Value} {ks : List (List Value)} {gs : List Value} (h : Nd w p vt ve vk ks gs) : ks.flatten.length ≤ 1000000 := by
  have := flat_le h.pos; have := h.few; omega

/-- The node's cells. -/
theorem Nd.cells {w : World} {p : Nat} {vt ve vk : Value} {ks : List (List Value)} {gs : List Value} (h : Nd w p vt ve vk ks gs) :
    w.cell? ⟨p, 0, none⟩ = some vt ∧ w.cell? ⟨p, 1, none⟩ = some ve ∧ w.cell? ⟨p, 2, none⟩ = some vk := by
  simp [World.cell?, h.blk]
theorem Nd.free {w : World} {p : Nat} {vt ve vk : Value} {ks : List (List Value)} {gs : List Value} (h : Nd w p vt ve vk ks gs) (o : Nat) : w.frozen? ⟨p, o, none⟩ = false := by
  simp [World.frozen?, h.blk]
theorem Nd.lt {w : World} {p : Nat} {vt ve vk : Value} {ks : List (List Value)} {gs : List Value} (h : Nd w p vt ve vk ks gs) : p < w.heap.size := (Array.getElem?_eq_some_iff.1 h.blk).1

/-- An owned slice of at least one element: its shape. -/
theorem own_some {w : World} {e : TypeId} {v : Value} {n : Nat} {xs : List Value} (h : w.ownsRow 0 e 1 v n xs) (hn : 0 < n) : ∃ g cap, v = .slice (some ⟨g, 0, none⟩) n cap ∧ n ≤ cap ∧ cap ≤ 9223372036854775807 ∧ v.ownBlock = some g ∧ g < w.heap.size ∧
    (∀ i, i < n → w.cell? ⟨g, i, none⟩ = xs[i]?) := by
  rcases h.2 with ⟨_, h0⟩ | ⟨g, cap, cur, rfl, hb, hg, hnc, hcm, hcs, htake⟩
  · omega
  · refine ⟨g, cap, rfl, hnc, by unfold maxLen at hcm; omega, rfl, (Array.getElem?_eq_some_iff.1 hg).1, fun i hi => ?_⟩
    have hl := h.1
    have h2 := h.cells (g := g) rfl i (xs[i]'(by omega)) (by simp)
    rw [List.getElem?_eq_getElem (by omega), ← h2]
    congr 1
    unfold Addr.add; split <;> simp_all

set_option maxHeartbeats 400000 in
theorem count_any {w : World} {p : Nat} {vt ve vk : Value} {ks : List (List Value)} {gs : List Value} (h : Nd w p vt ve vk ks gs) :
    Calls Yba.prog 15 #[.pointer (some ⟨p, 0, none⟩)] w fun r w' => r = .returned (.int .i64 ks.length) ∧ w' = w := by
  obtain ⟨c0, c1, c2⟩ := h.cells
  have hens := h.ens
  rcases hens.2 with ⟨rfl, h0⟩ | ⟨g, cap, cur, rfl, hb, hg, hnc, hcm, hcs, htake⟩
  · clear h hens
    go_enter Yba.func15, Yba.ntmps15
    go_wp2
    go_ret
    exact ⟨by rw [h0]; rfl, rfl⟩
  · clear h hens hg
    go_enter Yba.func15, Yba.ntmps15
    go_wp2
    go_ret
    exact ⟨rfl, rfl⟩

set_option maxHeartbeats 400000 in
theorem start_any {w : World} {p : Nat} {vt ve vk : Value} {ks : List (List Value)} {gs : List Value} (h : Nd w p vt ve vk ks gs) (i : Nat) (hi : i ≤ ks.length) :
    Calls Yba.prog 33 #[.pointer (some ⟨p, 0, none⟩), .int .i64 i] w fun r w' => r = .returned (.int .i64 (off ks i)) ∧ w' = w := by
  obtain ⟨c0, c1, c2⟩ := h.cells
  by_cases h0 : i = 0
  · subst h0
    clear h
    go_enter Yba.func33, Yba.ntmps33
    go_wp2
    go_ret
    exact ⟨by rw [off_zero]; rfl, rfl⟩
  · have hne : ((i : Int) == 0) = false := by simp; omega
    have hens := h.ens
    have hfew := h.few
    obtain ⟨g, cap, rfl, hnc, hcap, hob, hlt, hcell⟩ := own_some hens (by omega)
    have hc := hcell (i - 1) (by omega)
    rw [endsV_get ks (i - 1) (by omega), show i - 1 + 1 = i by omega] at hc
    clear h hens hcell
    generalize off ks i = o at *
    have b1 : (0 : Int) ≤ (i : Int) - 1 := by omega
    go_enter Yba.func33, Yba.ntmps33
    go_wp2
    go_ret
    exact ⟨rfl, rfl⟩

theorem Nd.drewN {w : World} {p : Nat} {vt ve vk : Value} {ks : List (List Value)} {gs : List Value} (h : Nd w p vt ve vk ks gs) (n : Nat) : Nd (w.drewN n) p vt ve vk ks gs :=
  ⟨h.blk, h.txt, h.ens, h.kid, h.pt, h.pe, h.pk, h.te, h.tk, h.ek, h.u8, h.pos, h.few, h.ptr⟩

set_option maxHeartbeats 800000 in
theorem key_any {w : World} {p : Nat} {vt ve vk : Value} {ks : List (List Value)} {gs : List Value} (h : Nd w p vt ve vk ks gs) (i : Nat) (hi : i < ks.length) :
    Calls Yba.prog 16 #[.pointer (some ⟨p, 0, none⟩), .int .i64 i] w fun r w' => ∃ g c nq, r = .returned (.slice (some ⟨g, off ks i, none⟩) (off ks (i + 1) - off ks i) c) ∧ vt.ownBlock = some g ∧ w' = w.drewN nq := by
  obtain ⟨c0, c1, c2⟩ := h.cells
  have hst := fun nq => start_any (h.drewN nq) i (by omega)
  have hens := h.ens
  have htxt := h.txt
  have hfew := h.few
  have hpos := h.pos ks[i] (by simp)
  have hsu := off_succ ks i hi
  have hle := off_le ks (i + 1)
  have htl := h.tlen
  obtain ⟨g, cap, rfl, hnc, hcap, hob, hlt, hcell⟩ := own_some hens (by omega)
  obtain ⟨gt, ct, rfl, hnct, hcapt, hobt, hltt, hcellt⟩ := own_some htxt (by omega)
  have hc := hcell i (by omega)
  rw [endsV_get ks i hi] at hc
  clear h hens hcell htxt hcellt
  generalize ks.flatten.length = T at *
  generalize off ks (i + 1) = o1 at *
  generalize off ks i = o at *
  generalize ks[i].length = L at *
  have b1 : (i : Int) < (ks.length : Int) := by omega
  have b2 : (o : Int) ≤ (o1 : Int) := by omega
  have b3 : (o1 : Int) ≤ (ct : Int) := by omega
  have b4 : ¬ ct = o := by omega
  have b5 : (0 : Int) ≤ (o1 : Int) := by omega
  have b6 : (0 : Int) ≤ (o : Int) := by omega
  clear hsu
  go_enter Yba.func16, Yba.ntmps16
  go_wp2
  go_quiet ((go_at_call 33; exact Calls.quiet_of_same (hst _)))
  go_wp2
  go_ret
  exact ⟨gt, ct - o, _, rfl, hobt, rfl⟩
end Go.Proofs.Ybulkcday
