import Derived.Test.YbulkcdkcDel
/-
  quorum, slices.Clip, the closures of after and of keptBy.
-/
namespace Go.Proofs.Ybulkcdkc
open Go.RowKit

/-- quorum. -/
def quo (ms ks : List ByteArray) : Bool := decide (ms.length < 2 * ks.length) || (decide (2 * ks.length = ms.length) && has ks (ms.getD 0 ⟨#[]⟩))

set_option maxRecDepth 100000 in
theorem quorum_any {w : World} {vm vk : Value} {ms ks : List ByteArray} (hm : Rd w vm ms) (hk : Rd w vk ks) (hl : ms.length ≤ 100000) (hl' : ks.length ≤ 100000) (h0 : 0 < ms.length) :
    Calls Yba.prog 20 #[vm, vk] w fun r w' => r = .returned (.bool (quo ms ks)) ∧ Keeps (fun _ => False) w w' := by
  obtain ⟨n, hn⟩ : ∃ n, ms.length = n := ⟨_, rfl⟩
  obtain ⟨m, hm'⟩ : ∃ m, ks.length = m := ⟨_, rfl⟩
  have hkc := contains_any hk (ms.getD 0 ⟨#[]⟩) hl'
  have hm1 : w.ownsRow 0 9 1 vm n (strs ms) := by rw [← hn]; exact hm
  have hk1 : w.ownsRow 0 9 1 vk m (strs ks) := by rw [← hm']; exact hk
  obtain ⟨g, c, rfl, -, -, hcell⟩ := own_atB hm1 (by omega)
  obtain ⟨a', c', rfl⟩ := own_sliceB hk1
  have d0 : w.cell? ⟨g, 0, none⟩ = some (.string (ms.getD 0 ⟨#[]⟩)) := by rw [(hcell 0 (by omega)).1]; exact strs_get ms 0 (by omega)
  have hq : quo ms ks = (decide (n < 2 * m) || (decide (2 * m = n) && has ks (ms.getD 0 ⟨#[]⟩))) := by unfold quo; rw [hn, hm']
  generalize ms.getD 0 ⟨#[]⟩ = s at *
  have e2 : (2 : Int) * (m : Int) = ((2 * m : Nat) : Int) := by omega
  have hb : 2 * m ≤ 200000 := by omega
  have x0 : (0 : Int) < (n : Int) := by omega
  rw [hq]
  obtain ⟨m2, hm2⟩ : ∃ m2, 2 * m = m2 := ⟨_, rfl⟩
  rw [hm2] at e2 hb
  rw [hm2]
  clear hq hm2 hm hk hm1 hk1 hn hm' hcell hl hl'
  by_cases h1 : n < m2
  · have h1' : decide ((n : Int) < (m2 : Int)) = true := by simp; omega
    have h2' : decide (n < m2) = true := by simp; omega
    go_enter Yba.func20, Yba.ntmps20
    go_wp2
    go_ret
    exact ⟨by simp [h1], Keeps.refl _ _⟩
  · have h1' : decide ((n : Int) < (m2 : Int)) = false := by simp; omega
    by_cases h2 : m2 = n
    · subst h2
      go_enter Yba.func20, Yba.ntmps20
      go_wp2_with fail
      refine hkc.mono ?_
      rintro r w1 ⟨rfl, hk⟩
      go_wp2
      go_ret
      exact ⟨by simp, hk⟩
    · have h2' : ((m2 : Int) == (n : Int)) = false := by simp; omega
      go_enter Yba.func20, Yba.ntmps20
      go_wp2
      go_ret
      exact ⟨by simp [h1, h2], Keeps.refl _ _⟩

theorem after1_any {w : World} {b : Nat} {num kd sq inc : Value} {fr : ByteArray} (hb : w.heap[b]? = some (.cells #[num, kd, .string fr, sq, inc] 66 (0, 0))) (x : ByteArray) :
    Calls Yba.prog 26 #[.string x, .pointer (some ⟨b, 0, none⟩)] w fun r w' => r = .returned (.bool (eqb x fr)) ∧ Keeps (fun _ => False) w w' := by
  have c0 : w.cell? ⟨b, 2, none⟩ = some (.string fr) := cell_of_row w b 2 _ 66 (0, 0) hb
  go_enter Yba.func26, Yba.ntmps26
  go_wp2
  go_ret
  exact ⟨rfl, Keeps.refl _ _⟩

theorem clip_any (w : World) (a : Option Addr) (n c : Nat) (h : a = none → n = 0 ∧ c = 0) (hc : n ≤ c) (hn : n ≤ 1000000) :
    Calls Yba.prog 22 #[.slice a n c] w fun r w' => r = .returned (.slice a n n) ∧ w' = w := by
  have x0 : (n : Int) ≤ (c : Int) := by omega
  have x1 : (0 : Int) ≤ (n : Int) := by omega
  cases a with
  | none =>
    obtain ⟨rfl, rfl⟩ := h rfl
    go_enter Yba.func22, Yba.ntmps22
    go_wp2
    go_ret
    exact ⟨rfl, rfl⟩
  | some a0 =>
    go_enter Yba.func22, Yba.ntmps22
    go_wp2
    go_ret
    exact ⟨rfl, rfl⟩
end Go.Proofs.Ybulkcdkc
