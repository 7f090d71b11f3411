import Derived.Test.YbulkcdkcStr
namespace Go.Proofs.Ybulkcdkc
open Go.RowKit

/-- The six names. -/
def nmB : Nat → ByteArray
  | 0 => ⟨#[97]⟩
  | 1 => ⟨#[98]⟩
  | 2 => ⟨#[99]⟩
  | 3 => ⟨#[100]⟩
  | 4 => ⟨#[101]⟩
  | _ => ⟨#[102]⟩
theorem nmB_inj {i j : Nat} (hi : i < 6) (hj : j < 6) (h : nmB i = nmB j) : i = j := by
  have hi' : i = 0 ∨ i = 1 ∨ i = 2 ∨ i = 3 ∨ i = 4 ∨ i = 5 := by omega
  have hj' : j = 0 ∨ j = 1 ∨ j = 2 ∨ j = 3 ∨ j = 4 ∨ j = 5 := by omega
  rcases hi' with rfl | rfl | rfl | rfl | rfl | rfl <;> rcases hj' with rfl | rfl | rfl | rfl | rfl | rfl <;> first | rfl | (exfalso; have h2 := congrArg (fun b : ByteArray => b.data.toList) h; simp [nmB] at h2)
theorem nmB_size (i : Nat) : (nmB i).size = 1 := by unfold nmB; split <;> rfl

theorem name_any (w : World) (x : Nat) (hx : x < 256) : Calls Yba.prog 4 #[.int .u8 x] w fun r w' => r = .returned (.string (nmB (x % 6))) ∧ Keeps (fun _ => False) w w' := by
  have h0 : (0 : Int) ≤ (x : Int) := by omega
  have hm : x % 6 = 0 ∨ x % 6 = 1 ∨ x % 6 = 2 ∨ x % 6 = 3 ∨ x % 6 = 4 ∨ x % 6 = 5 := by omega
  have ka := (Keeps.refl (fun _ => False) w).alloc (.cells #[.string ⟨#[97]⟩, .string ⟨#[98]⟩, .string ⟨#[99]⟩, .string ⟨#[100]⟩, .string ⟨#[101]⟩, .string ⟨#[102]⟩] 76)
  rcases hm with h | h | h | h | h | h
  · have h6 : (x : Int) % 6 = 0 := by omega
    rw [h]
    go_enter Yba.func4, Yba.ntmps4
    go_wp2
    go_ret
    exact ⟨rfl, ka⟩
  · have h6 : (x : Int) % 6 = 1 := by omega
    rw [h]
    go_enter Yba.func4, Yba.ntmps4
    go_wp2
    go_ret
    exact ⟨rfl, ka⟩
  · have h6 : (x : Int) % 6 = 2 := by omega
    rw [h]
    go_enter Yba.func4, Yba.ntmps4
    go_wp2
    go_ret
    exact ⟨rfl, ka⟩
  · have h6 : (x : Int) % 6 = 3 := by omega
    rw [h]
    go_enter Yba.func4, Yba.ntmps4
    go_wp2
    go_ret
    exact ⟨rfl, ka⟩
  · have h6 : (x : Int) % 6 = 4 := by omega
    rw [h]
    go_enter Yba.func4, Yba.ntmps4
    go_wp2
    go_ret
    exact ⟨rfl, ka⟩
  · have h6 : (x : Int) % 6 = 5 := by omega
    rw [h]
    go_enter Yba.func4, Yba.ntmps4
    go_wp2
    go_ret
    exact ⟨rfl, ka⟩
end Go.Proofs.Ybulkcdkc
