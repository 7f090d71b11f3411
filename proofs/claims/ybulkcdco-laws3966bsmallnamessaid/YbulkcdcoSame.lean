import Derived.Test.YbulkcdcoStep
namespace Go.Proofs.Ybulkcdco
open Go.RowKit

set_option maxHeartbeats 1600000 in
theorem same_any {w : World} (v v' : Value) (l : List Nat) (hl : l.length ≤ 1000000) (ho : w.ownsRow 0 3 1 v l.length (nats l)) (ho' : w.ownsRow 0 3 1 v' l.length (nats l)) :
    Calls Yba.prog 12 #[v, v'] w fun r w' => r = .returned (.bool true) ∧ Keeps (fun _ => False) w w' := by
  obtain ⟨a, c, rfl⟩ := own_sliceB ho
  obtain ⟨a', c', rfl⟩ := own_sliceB ho'
  go_enter Yba.func12, Yba.ntmps12
  go_wp2
  go_loopw [5] (fun vi wx => ∃ q : Nat, q ≤ l.length ∧ vi = .int .i64 q ∧ Keeps (fun _ => False) w wx) (fun vi _ => l.length - (intOf vi).toNat)
  case atStart => exact ⟨0, by omega, rfl, Keeps.refl _ _⟩
  case round =>
    obtain ⟨q, hq, rfl, hk⟩ := hrel
    by_cases hlt : q < l.length
    · have y0 : (q : Int) < (l.length : Int) := by omega
      have y1 : (0 : Int) ≤ (q : Int) := by omega
      obtain ⟨g, cap, hg, -, -, hcell⟩ := own_atB (hk.own ho (fun _ _ h => h)) (by omega)
      injection hg with h1 _ h3
      subst h1
      subst h3
      obtain ⟨g', cap', hg', -, -, hcell'⟩ := own_atB (hk.own ho' (fun _ _ h => h)) (by omega)
      injection hg' with h1' _ h3'
      subst h1'
      subst h3'
      have d0 : wr.cell? ⟨g, q, none⟩ = some (.int .i64 ((l.getD q 0 : Nat) : Int)) := by rw [(hcell q hlt).1]; exact nats_get l q hlt
      have d1 : wr.cell? ⟨g', q, none⟩ = some (.int .i64 ((l.getD q 0 : Nat) : Int)) := by rw [(hcell' q hlt).1]; exact nats_get l q hlt
      generalize l.getD q 0 = z at *
      clear hcell hcell'
      go_wp2
      go_quiet (fail)
      have hk2 := hk.drewN nq
      go_wp2
      go_roundw
      case rel => exact ⟨q + 1, by omega, by go_num, hk2⟩
      case measure => simp [intOf]; omega
    · go_wp2
      go_ret
      exact ⟨rfl, hk⟩
end Go.Proofs.Ybulkcdco
