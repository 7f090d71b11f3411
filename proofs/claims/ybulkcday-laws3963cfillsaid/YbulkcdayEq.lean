import Derived.Test.YbulkcdayTri
import Derived.Lib.Builder
namespace Go.Proofs.Ybulkcday
open Go.RowKit

/-- What an owned row reads as. -/
theorem own_len {w : World} {e : TypeId} {v : Value} {n : Nat} {xs : List Value} (h : w.ownsRow 0 e 1 v n xs) : xs.length = n := by have := h.1; omega

set_option maxHeartbeats 800000 in
theorem clone_any {w : World} (v : Value) (n : Nat) (xs : List Value) (h1 : ∀ u ∈ xs, u.oneCell' = true) (ho : w.ownsRow 0 3 1 v n xs) (hn0 : 0 < n) (hn : n ≤ 1000000) :
    Calls Yba.prog 12 #[v] w fun r w' => ∃ g c, r = .returned (.slice (some ⟨g, 0, none⟩) n c) ∧ w'.ownsRow 0 3 1 (.slice (some ⟨g, 0, none⟩) n c) n xs ∧ c ≤ 9223372036854775807 ∧ Keeps (fun _ => False) w w' ∧ w.heap.size ≤ g := by
  obtain ⟨i0, hi, hi0, hi1, hi2⟩ := info_parts Yba.info3
  obtain ⟨gv, cv, rfl, hnc, hcm, hob, hlt, hcell⟩ := own_some ho hn0
  have hz : (w.alloc (.cells #[] 3)).ownsRow 0 3 1 (.slice (some ⟨w.heap.size, 0, none⟩) 0 0) 0 [] := ⟨rfl, .inr ⟨w.heap.size, 0, #[], rfl, Nat.zero_le _, heap_alloc_new w _, Nat.le_refl _, by simp [maxLen], rfl, rfl⟩⟩
  have ko := (Keeps.refl (fun _ => False) w).alloc (.cells #[] 3)
  have hsrc := src_own (ko.own ho (fun _ _ h => h)) h1
  have hnil : ∀ w : World, (binOp .eql 26 (.slice (some ⟨gv, 0, none⟩) n cv) (.slice none 0 0)).run Yba.prog w = .ok (.bool false) w := fun w => by
    have h : ∀ d : Nat, (Op.equalIn (d + 1) 26 (.slice (some ⟨gv, 0, none⟩) n cv) (.slice none 0 0)).run Yba.prog w = .ok false w := fun d => by simp [Op.equalIn, run_underlying Yba.underlying26]
    simp only [binOp]
    simp [Op.equal, Op.maxDepth, h 9999]
  clear hcell
  go_enter Yba.func12, Yba.ntmps12
  go_wp2_with (at_builtin; refine wpList_app _ rfl (.tmp 5) (.tmp 6) 26 rfl 3 i0 (.int .i64 0) 1 8 Yba.underlying26 hi hi0 hi1 hi2 rfl (by omega) (.slice (some ⟨w.heap.size, 0, none⟩) 0 0) 0 [] rfl hz n xs hsrc (by unfold maxLen; omega) (by omega) ?_; intro v1 w1 hA hn1; obtain ⟨g, c, rfl, hgc, hcm', ho', hk', hm'⟩ := hA.shape (by omega))
  go_ret
  refine ⟨g, c, rfl, by rw [Nat.zero_add, List.nil_append] at ho'; exact ho', hcm', ko.trans hk' (fun b hb h => by omega), ?_⟩
  rcases hm' with h | h
  · omega
  · exact Nat.le_trans ko.size h

set_option maxHeartbeats 1600000 in
theorem eqs_any {w : World} (v v' : Value) (n : Nat) (xs : List ByteArray) (hn : n ≤ 1000000) (ho : w.ownsRow 0 9 1 v n (xs.map Value.string)) (ho' : w.ownsRow 0 9 1 v' n (xs.map Value.string)) :
    Calls Yba.prog 10 #[v, v'] w fun r w' => r = .returned (.bool true) ∧ Keeps (fun _ => False) w w' := by
  have hxl : xs.length = n := by have := own_len ho; simpa using this
  by_cases hn0 : n = 0
  · subst hn0
    have hx : xs = [] := List.eq_nil_of_length_eq_zero hxl
    subst hx
    obtain ⟨a, c, rfl⟩ := own_slice ho
    obtain ⟨a', c', rfl⟩ := own_slice ho'
    clear ho ho'
    go_enter Yba.func10, Yba.ntmps10
    go_wp2
    go_loop [13, 5] (fun k _ => k = .int .i64 0) (fun _ _ => 0)
    case atStart => rfl
    case round =>
      subst hrel
      go_wp2
      go_ret
      exact ⟨rfl, Keeps.refl _ _⟩
  · obtain ⟨g, c, rfl, hnc, hcm, hob, hlt, hcell⟩ := own_some ho (by omega)
    obtain ⟨g', c', rfl, hnc', hcm', hob', hlt', hcell'⟩ := own_some ho' (by omega)
    clear ho ho'
    go_enter Yba.func10, Yba.ntmps10
    go_wp2
    go_loopw [13, 5] (fun k _ wr => ∃ m : Nat, m ≤ n ∧ k = .int .i64 m ∧ Keeps (fun _ => False) w wr) (fun k _ _ => n - (intOf k).toNat)
    case atStart => exact ⟨0, by omega, rfl, Keeps.refl _ _⟩
    case round =>
      obtain ⟨m, hm, rfl, hk⟩ := hrel
      by_cases hlt2 : m < n
      · have hx : m < xs.length := by omega
        have d0 : wr.cell? ⟨g, m, none⟩ = some (.string xs[m]) := hk.cells (fun h => h) (by rw [hcell m hlt2, List.getElem?_map, List.getElem?_eq_getElem hx]; rfl)
        have d1 : wr.cell? ⟨g', m, none⟩ = some (.string xs[m]) := hk.cells (fun h => h) (by rw [hcell' m hlt2, List.getElem?_map, List.getElem?_eq_getElem hx]; rfl)
        clear hcell hcell'
        generalize xs[m] = s at *
        have b1 : (m : Int) < (n : Int) := by omega
        have b2 : (0 : Int) ≤ (m : Int) := by omega
        go_wp2
        go_quiet (fail)
        go_wp2
        go_roundw
        case rel =>
          exact ⟨m + 1, by omega, by go_num, hk.drewN _⟩
        case measure => simp [intOf]; omega
      · obtain rfl : m = n := by omega
        clear hcell hcell'
        go_wp2
        go_ret
        exact ⟨rfl, hk⟩

set_option maxHeartbeats 1600000 in
theorem eqk_any {w : World} (v v' : Value) (n : Nat) (xs : List Value) (hp : ∀ u ∈ xs, ∃ a, u = Value.pointer (some a)) (hn : n ≤ 1000000) (ho : w.ownsRow 0 24 1 v n xs) (ho' : w.ownsRow 0 24 1 v' n xs) :
    Calls Yba.prog 17 #[v, v'] w fun r w' => r = .returned (.bool true) ∧ Keeps (fun _ => False) w w' := by
  have hxl : xs.length = n := own_len ho
  by_cases hn0 : n = 0
  · subst hn0
    have hx : xs = [] := List.eq_nil_of_length_eq_zero hxl
    subst hx
    obtain ⟨a, c, rfl⟩ := own_slice ho
    obtain ⟨a', c', rfl⟩ := own_slice ho'
    clear ho ho'
    go_enter Yba.func17, Yba.ntmps17
    go_wp2
    go_loop [13, 5] (fun k _ => k = .int .i64 0) (fun _ _ => 0)
    case atStart => rfl
    case round =>
      subst hrel
      go_wp2
      go_ret
      exact ⟨rfl, Keeps.refl _ _⟩
  · obtain ⟨g, c, rfl, hnc, hcm, hob, hlt, hcell⟩ := own_some ho (by omega)
    obtain ⟨g', c', rfl, hnc', hcm', hob', hlt', hcell'⟩ := own_some ho' (by omega)
    clear ho ho'
    go_enter Yba.func17, Yba.ntmps17
    go_wp2
    go_loopw [13, 5] (fun k _ wr => ∃ m : Nat, m ≤ n ∧ k = .int .i64 m ∧ Keeps (fun _ => False) w wr) (fun k _ _ => n - (intOf k).toNat)
    case atStart => exact ⟨0, by omega, rfl, Keeps.refl _ _⟩
    case round =>
      obtain ⟨m, hm, rfl, hk⟩ := hrel
      by_cases hlt2 : m < n
      · have hx : m < xs.length := by omega
        obtain ⟨ap, hap⟩ := hp xs[m] (by simp)
        have d0 : wr.cell? ⟨g, m, none⟩ = some (.pointer (some ap)) := hk.cells (fun h => h) (by rw [hcell m hlt2, List.getElem?_eq_getElem hx, hap])
        have d1 : wr.cell? ⟨g', m, none⟩ = some (.pointer (some ap)) := hk.cells (fun h => h) (by rw [hcell' m hlt2, List.getElem?_eq_getElem hx, hap])
        clear hcell hcell' hap
        obtain ⟨j0, hj0⟩ : ∃ j, Yba.prog.info? 30 = some j := ⟨_, rfl⟩
        have hpe := fun w => Lib.run_neq_ptr_same (P := Yba.prog) w (tp := 24) (te := 30) ap Yba.underlying24 hj0
        have b1 : (m : Int) < (n : Int) := by omega
        have b2 : (0 : Int) ≤ (m : Int) := by omega
        go_wp2
        go_quiet (fail)
        go_wp2
        go_roundw
        case rel =>
          exact ⟨m + 1, by omega, by go_num, hk.drewN _⟩
        case measure => simp [intOf]; omega
      · obtain rfl : m = n := by omega
        clear hcell hcell'
        go_wp2
        go_ret
        exact ⟨rfl, hk⟩
end Go.Proofs.Ybulkcday
