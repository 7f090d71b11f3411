import Derived.Test.YbulkcdcoOwn
import Derived.Test.YbulkcdcoRows
import Derived.Deep.CutRange
import Derived.Deep.DeepCutAuto
import Derived.Deep.RegionLaw
import Derived.Deep.RegionWith
import Derived.Deep.QuietTactic
import Derived.BigQuiet
namespace Go.Proofs.Ybulkcdco
open Go.RowKit

/-- The least nonzero line so far. -/
def lst (c n : Int) : Int := if n ≠ 0 ∧ (c = 0 ∨ n < c) then n else c

section
variable {c n : Int}
theorem lst_n0 (h : n = 0) : lst c n = c := by unfold lst; simp [h]
theorem lst_c0 (h : c = 0) : lst c n = n := by unfold lst; by_cases h' : n = 0 <;> simp [h, h']
theorem lst_lt (h0 : n ≠ 0) (h : n < c) : lst c n = n := by unfold lst; simp [h0, h]
theorem lst_ge (h0 : c ≠ 0) (h : ¬ n < c) : lst c n = c := by unfold lst; simp [h0, h]
end
theorem less_any (w : World) (c n : Int) : Calls Yba.prog 9 #[.int .i64 c, .int .i64 n] w fun r w' => r = .returned (.int .i64 (lst c n)) ∧ w' = w := by
  by_cases h0 : n = 0
  · by_cases h1 : c = 0
    · rw [lst_n0 h0]; subst h0; subst h1
      go_enter Yba.func9, Yba.ntmps9
      go_wp2
      go_ret
      exact ⟨rfl, rfl⟩
    · rw [lst_n0 h0]; subst h0
      have e1 : (c == 0) = false := by simp [h1]
      go_enter Yba.func9, Yba.ntmps9
      go_wp2
      go_ret
      exact ⟨rfl, rfl⟩
  · have e0 : (n != 0) = true := by simp [h0]
    by_cases h1 : c = 0
    · rw [lst_c0 h1]; subst h1
      go_enter Yba.func9, Yba.ntmps9
      go_wp2
      go_ret
      exact ⟨rfl, rfl⟩
    · have e1 : (c == 0) = false := by simp [h1]
      by_cases h2 : n < c
      · rw [lst_lt h0 h2]
        have hd : decide (n < c) = true := by simp [h2]
        go_enter Yba.func9, Yba.ntmps9
        go_wp2
        go_ret
        exact ⟨rfl, rfl⟩
      · rw [lst_ge h1 h2]
        have hd : decide (n < c) = false := by simp [h2]
        go_enter Yba.func9, Yba.ntmps9
        go_wp2
        go_ret
        exact ⟨rfl, rfl⟩
theorem early_any (w : World) (c n : Int) : Calls Yba.prog 14 #[.int .i64 c, .int .i64 n] w fun r w' => r = .returned (.int .i64 (lst c n)) ∧ w' = w := by
  by_cases h0 : n = 0
  · by_cases h1 : c = 0
    · rw [lst_n0 h0]; subst h0; subst h1
      go_enter Yba.func14, Yba.ntmps14
      go_wp2
      go_ret
      exact ⟨rfl, rfl⟩
    · rw [lst_n0 h0]; subst h0
      have e1 : (c == 0) = false := by simp [h1]
      go_enter Yba.func14, Yba.ntmps14
      go_wp2
      go_ret
      exact ⟨rfl, rfl⟩
  · have e0 : (n != 0) = true := by simp [h0]
    by_cases h1 : c = 0
    · rw [lst_c0 h1]; subst h1
      go_enter Yba.func14, Yba.ntmps14
      go_wp2
      go_ret
      exact ⟨rfl, rfl⟩
    · have e1 : (c == 0) = false := by simp [h1]
      by_cases h2 : n < c
      · rw [lst_lt h0 h2]
        have hd : decide (n < c) = true := by simp [h2]
        go_enter Yba.func14, Yba.ntmps14
        go_wp2
        go_ret
        exact ⟨rfl, rfl⟩
      · rw [lst_ge h1 h2]
        have hd : decide (n < c) = false := by simp [h2]
        go_enter Yba.func14, Yba.ntmps14
        go_wp2
        go_ret
        exact ⟨rfl, rfl⟩
end Go.Proofs.Ybulkcdco
