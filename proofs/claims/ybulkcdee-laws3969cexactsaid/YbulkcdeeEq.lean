import Derived.Test.YbulkcdeeMarsh
namespace Go.Proofs.Ybulkcdee
open Go.RowKit

/-- What 'slices.Equal' is told of a slice: its length; its cells. -/
structure Bytes (w : World) (v : Value) (xs : List Value) : Prop where
  is : ∃ ao cap, v = .slice ao xs.length cap ∧ (ao = none → xs = []) ∧ (∀ a, ao = some a → a.spot = none ∧ a.off = 0 ∧ ∀ i, i < xs.length → w.cell? ⟨a.block, i, none⟩ = xs[i]?)

theorem bytes_own {w : World} {B e : Nat} {v : Value} {xs : List Value} (h : w.ownsRow B e 1 v xs.length xs) : Bytes w v xs := by
  refine ⟨?_⟩
  rcases h.2 with ⟨rfl, hn⟩ | ⟨g, cap, cur, rfl, hb, hg, hnc, hcm, hcs, htake⟩
  · exact ⟨none, 0, by rw [hn], fun _ => List.eq_nil_of_length_eq_zero hn, fun a h => by cases h⟩
  · refine ⟨some ⟨g, 0, none⟩, cap, rfl, (fun h => by cases h), fun a ha => ?_⟩
    cases ha
    refine ⟨rfl, rfl, fun i hi => ?_⟩
    have h2 := h.cells (g := g) rfl i (xs[i]) (by simp [hi])
    rw [List.getElem?_eq_getElem hi, ← h2]
    congr 1
    unfold Addr.add; split <;> simp_all

set_option maxHeartbeats 1600000 in
theorem equal_any (v1 v2 : Value) (xs : List Int) (w : World) (h1 : Bytes w v1 (xs.map (Value.int .u8))) (h2 : Bytes w v2 (xs.map (Value.int .u8))) (hl : xs.length ≤ 100000000000) :
    Calls Yba.prog 6 #[v1, v2] w fun e w' => e = .returned (.bool true) ∧ Below w.heap.size w w' := by
  obtain ⟨ao1, c1, rfl, hn1, hc1⟩ := h1.is
  obtain ⟨ao2, c2, rfl, hn2, hc2⟩ := h2.is
  simp only [List.length_map] at *
  clear h1 h2
  have hne : ((xs.length : Int) != (xs.length : Int)) = false := by simp
  go_enter Yba.func6, Yba.ntmps6
  go_wp2
  go_loopw [5, 13] (fun _ i wr => ∃ (k : Nat), k ≤ xs.length ∧ i = .int .i64 k ∧ Below w.heap.size w wr) (fun _ i _ => xs.length - (intOf i).toNat)
  case atStart => exact ⟨0, Nat.zero_le _, rfl, Below.refl _ _⟩
  case round =>
    obtain ⟨k, hk, rfl, hb⟩ := hrel
    by_cases hlt : k < xs.length
    · cases ao1 with
      | none => have := hn1 rfl; simp at this; rw [this] at hlt; simp at hlt
      | some a1 =>
        cases ao2 with
        | none => have := hn2 rfl; simp at this; rw [this] at hlt; simp at hlt
        | some a2 =>
          obtain ⟨b1, o1, s1⟩ := a1
          obtain ⟨b2, o2, s2⟩ := a2
          obtain ⟨hs1, ho1, hd1⟩ := hc1 _ rfl
          obtain ⟨hs2, ho2, hd2⟩ := hc2 _ rfl
          dsimp only at hs1 ho1 hd1 hs2 ho2 hd2
          subst hs1 ho1 hs2 ho2
          have g1 := hd1 k hlt
          have g2 := hd2 k hlt
          have l1 : b1 < w.heap.size := by
            refine lt_of_cell (o := k) (v := .int .u8 xs[k]) (by rw [g1]; simp [hlt])
          have l2 : b2 < w.heap.size := by
            refine lt_of_cell (o := k) (v := .int .u8 xs[k]) (by rw [g2]; simp [hlt])
          have g1' : wr.cell? ⟨b1, k, none⟩ = some (.int .u8 xs[k]) := by rw [hb.cell (p := ⟨b1, k, none⟩) l1, g1]; simp [hlt]
          have g2' : wr.cell? ⟨b2, k, none⟩ = some (.int .u8 xs[k]) := by rw [hb.cell (p := ⟨b2, k, none⟩) l2, g2]; simp [hlt]
          have hlt' : (k : Int) < (xs.length : Int) := by omega
          generalize xs[k] = y at *
          have hyy : (y != y) = false := by simp
          clear hc1 hc2 hd1 hd2 g1 g2 hn1 hn2
          go_wp2
          go_quiet (fail)
          go_wp2
          go_roundw
          case rel => exact ⟨k + 1, by omega, by go_num, below_drewN hb _⟩
          case measure => simp [intOf]; omega
    · go_wp2
      go_ret
      exact ⟨rfl, hb⟩
end Go.Proofs.Ybulkcdee
