import Derived.Test.YbulkcdaySl
namespace Go.Proofs.Ybulkcday
open Go.RowKit

/-- append(s, make([]T, n)...) where it must grow. -/
theorem run_append_grow_zeros {P : Program} (w : World) (t tn ty e : TypeId) (i : TypeInfo) (z : Value) (k kn : IntKind) (ht : P.underlying t = some (.slice e)) (htn : P.underlying tn = some (.int kn)) (hi : P.info? e = some i) (hz : i.zero = some z) (hs : 0 < i.size)
    (b : Addr) (sLen sCap : Nat) (olds : List Value) (hlo : olds.length = sLen * i.size) (holds : ∀ j v, olds[j]? = some v → w.cell? (b.add j) = some v)
    (n : Nat) (h0 : 0 < n) (hg : sCap < sLen + n) (h63 : ((sLen + n : Nat) : Int) ≤ 9223372036854775807) (h48 : n * i.bytes ≤ 281474976710656) (hfit : Builtin.nextslicecap (sLen + n) sCap * i.bytes ≤ 281474976710656) :
    (Builtin.append_ #[t, tn] ty #[.slice (some b) sLen sCap, .int k n]).run P w =
      .ok (.slice (some ⟨w.heap.size, 0, none⟩) (sLen + n) (grownCap w (sLen + n) sCap e))
        (w.drew.alloc (.cells (olds.toArray ++ Builtin.zeroCells z.cells n ++ Builtin.zeroCells z.cells (grownCap w (sLen + n) sCap e - (sLen + n))) e)) := by
  have hn : ¬ (sLen + n ≤ sCap) := by omega
  have hw : IntKind.i64.wrap (n : Int) = n := by rw [IntKind.wrap_i64]; omega
  have h63' : ¬ (9223372036854775807 < ((sLen : Int) + (n : Int))) := by omega
  have h48' : ¬ (281474976710656 < Builtin.nextslicecap (sLen + n) sCap * i.bytes) := by omega
  have h48i : ¬ (281474976710656 < (n : Int) * (i.bytes : Int)) := by
    rw [← Int.natCast_mul]
    omega
  have hneg : ¬ ((n : Int) < 0) := by omega
  have hns : ¬ (n * i.size = 0) := Nat.mul_ne_zero (by omega) (by omega)
  have hfo := run_firstCells_some (P := P) w.drew i.size sLen b sLen sCap olds hlo (by simpa using holds)
  simp [Builtin.append_, run_underlying ht, run_underlying htn, sizeOf, typeInfo, zeroValue, hi, hz, asInt, asIntOf, hw, hneg, hns, hn, h63', h48', h48i, Question.forced, hfo, newRow, grownCap]

theorem app_new {w : World} {e : TypeId} {v : Value} {n cap C : Nat} {xs ys : List Value} (R : Array Value) (hyl : ys.length = cap) (hyt : ys.take n = xs) (hnc : n ≤ cap) (hC : cap + R.size = C) (hm : C ≤ maxLen) :
    App e 1 w v n xs (.slice (some ⟨w.heap.size, 0, none⟩) n C) ((w.alloc (.cells (ys.toArray ++ R) e)).drew) n xs := by
  refine ⟨⟨by rw [← hyt]; simp; omega, .inr ⟨w.heap.size, C, ys.toArray ++ R, rfl, Nat.zero_le _, heap_alloc_new w _, by omega, hm, by simp; omega, ?_⟩⟩, ((Keeps.refl _ w).alloc _).drew, fun g hg => .inr (by simp [Value.ownBlock] at hg; omega)⟩
  rw [← hyt, Array.toList_append, List.take_append]
  simp
  rw [show n - ys.length = 0 by omega]; simp

theorem own_full {w : World} {e : TypeId} {g n cap : Nat} {xs : List Value} (h : w.ownsRow 0 e 1 (.slice (some ⟨g, 0, none⟩) n cap) n xs) : ∃ ys, ys.length = cap ∧ ys.take n = xs ∧ w.ownsRow 0 e 1 (.slice (some ⟨g, 0, none⟩) cap cap) cap ys := by
  rcases h.2 with ⟨h, _⟩ | ⟨g', cap', cur, hv, hb, hg, hnc, hcm, hcs, htake⟩
  · cases h
  · cases hv
    refine ⟨cur.toList, by simpa using hcs, by simpa using htake, by simpa using hcs, .inr ⟨g, cap, cur, rfl, hb, hg, Nat.le_refl _, hcm, hcs, by rw [Nat.mul_one] at hcs; rw [Nat.mul_one, ← hcs]; exact List.take_of_length_le (by simp)⟩⟩

set_option maxHeartbeats 800000 in
theorem grow37_any (g n cap m : Nat) (xs : List Value) (w : World) (hown : w.ownsRow 0 5 1 (.slice (some ⟨g, 0, none⟩) n cap) n xs) (hm : 0 < m) (hmb : n + m ≤ 1000000000) (hcap : cap ≤ 9223372036854775807) :
    Calls Yba.prog 37 #[.slice (some ⟨g, 0, none⟩) n cap, .int .i64 m] w fun r w' => ∃ g' cap', r = .returned (.slice (some ⟨g', 0, none⟩) n cap') ∧ n + m ≤ cap' ∧ cap' ≤ 9223372036854775807 ∧ App 5 1 w (.slice (some ⟨g, 0, none⟩) n cap) n xs (.slice (some ⟨g', 0, none⟩) n cap') w' n xs := by
  obtain ⟨i0, hi, hi0, hi1, hi2⟩ := info_parts Yba.info5
  have hnc := own_cap hown
  have hneg : decide ((m : Int) < 0) = false := by simp
  by_cases hr : n + m ≤ cap
  · have hpos : decide ((0 : Int) < (m : Int) - ((cap : Int) - (n : Int))) = false := by simp; omega
    go_enter Yba.func37, Yba.ntmps37
    go_wp2
    go_ret
    exact ⟨g, cap, rfl, hr, hcap, App.refl hown⟩
  · obtain ⟨ys, hyl, hyt, hoy⟩ := own_full hown
    have hrun := run_append_grow_zeros (P := Yba.prog) w 25 3 25 5 i0 (.int .u8 0) .i64 .i64 Yba.underlying25 Yba.underlying3 hi hi0 (by omega) ⟨g, 0, none⟩ cap cap ys (by rw [hyl, hi1, Nat.mul_one]) (hoy.cells (g := g) rfl) (m - (cap - n)) (by omega) (by omega) (by omega) (by rw [hi2]; omega) (growslice_fits (by omega) (by rw [hi2]; omega))
    have hge := grownCap_ge w (cap + (m - (cap - n))) cap 5
    have hle := grownCap_le_maxLen w (cap + (m - (cap - n))) cap 5 (by unfold maxLen; omega)
    have hA := app_new (w := w) (e := 5) (v := .slice (some ⟨g, 0, none⟩) n cap) (C := grownCap w (cap + (m - (cap - n))) cap 5) (Builtin.zeroCells #[Value.int .u8 0] (m - (cap - n)) ++ Builtin.zeroCells #[Value.int .u8 0] (grownCap w (cap + (m - (cap - n))) cap 5 - (cap + (m - (cap - n))))) hyl hyt hnc (by simp [size_zeroCells]; omega) hle
    unfold maxLen at hle
    generalize grownCap w (cap + (m - (cap - n))) cap 5 = C at *
    go_enter Yba.func37, Yba.ntmps37
    go_wp2_with (at_builtin; refine Lib.wpList_append_run _ rfl (.tmp 20) (.tmp 21) 25 3 rfl _ _ rfl (by show Value.int _ _ = _; congr 1; omega) _ _ hrun ?_)
    go_ret
    exact ⟨w.heap.size, C, rfl, by omega, by omega, hA⟩

set_option maxHeartbeats 800000 in
theorem grow38_any (g n cap m : Nat) (xs : List Value) (w : World) (hown : w.ownsRow 0 3 1 (.slice (some ⟨g, 0, none⟩) n cap) n xs) (hm : 0 < m) (hmb : n + m ≤ 1000000000) (hcap : cap ≤ 9223372036854775807) :
    Calls Yba.prog 38 #[.slice (some ⟨g, 0, none⟩) n cap, .int .i64 m] w fun r w' => ∃ g' cap', r = .returned (.slice (some ⟨g', 0, none⟩) n cap') ∧ n + m ≤ cap' ∧ cap' ≤ 9223372036854775807 ∧ App 3 1 w (.slice (some ⟨g, 0, none⟩) n cap) n xs (.slice (some ⟨g', 0, none⟩) n cap') w' n xs := by
  obtain ⟨i0, hi, hi0, hi1, hi2⟩ := info_parts Yba.info3
  have hnc := own_cap hown
  have hneg : decide ((m : Int) < 0) = false := by simp
  by_cases hr : n + m ≤ cap
  · have hpos : decide ((0 : Int) < (m : Int) - ((cap : Int) - (n : Int))) = false := by simp; omega
    go_enter Yba.func38, Yba.ntmps38
    go_wp2
    go_ret
    exact ⟨g, cap, rfl, hr, hcap, App.refl hown⟩
  · obtain ⟨ys, hyl, hyt, hoy⟩ := own_full hown
    have hrun := run_append_grow_zeros (P := Yba.prog) w 26 3 26 3 i0 (.int .i64 0) .i64 .i64 Yba.underlying26 Yba.underlying3 hi hi0 (by omega) ⟨g, 0, none⟩ cap cap ys (by rw [hyl, hi1, Nat.mul_one]) (hoy.cells (g := g) rfl) (m - (cap - n)) (by omega) (by omega) (by omega) (by rw [hi2]; omega) (growslice_fits (by omega) (by rw [hi2]; omega))
    have hge := grownCap_ge w (cap + (m - (cap - n))) cap 3
    have hle := grownCap_le_maxLen w (cap + (m - (cap - n))) cap 3 (by unfold maxLen; omega)
    have hA := app_new (w := w) (e := 3) (v := .slice (some ⟨g, 0, none⟩) n cap) (C := grownCap w (cap + (m - (cap - n))) cap 3) (Builtin.zeroCells #[Value.int .i64 0] (m - (cap - n)) ++ Builtin.zeroCells #[Value.int .i64 0] (grownCap w (cap + (m - (cap - n))) cap 3 - (cap + (m - (cap - n))))) hyl hyt hnc (by simp [size_zeroCells]; omega) hle
    unfold maxLen at hle
    generalize grownCap w (cap + (m - (cap - n))) cap 3 = C at *
    go_enter Yba.func38, Yba.ntmps38
    go_wp2_with (at_builtin; refine Lib.wpList_append_run _ rfl (.tmp 20) (.tmp 21) 26 3 rfl _ _ rfl (by show Value.int _ _ = _; congr 1; omega) _ _ hrun ?_)
    go_ret
    exact ⟨w.heap.size, C, rfl, by omega, by omega, hA⟩

end Go.Proofs.Ybulkcday
