import Derived.Test.YbulkcdayApp
import Derived.Lib.Overlaps
namespace Go.Proofs.Ybulkcday
open Go.RowKit

theorem size24 (w : World) : (Go.sizeOf 24).run Yba.prog w = .ok 1 w := by
  obtain ⟨i0, hi, hi0, hi1, _⟩ := info_parts Yba.info24
  simp [sizeOf, typeInfo, hi, hi1]

theorem over_apart (w : World) (g n cap : Nat) (xs : List Value) (hown : w.ownsRow 0 24 1 (.slice (some ⟨g, 0, none⟩) n cap) n xs) (hc : 0 < cap) (K : Nat) (u : Value) (hK : w.heap[K]? = some (.cells #[u] 24 (0, 0))) (hne : K ≠ g) (o lb cb : Nat) :
    (callFunc 42 #[.slice (some ⟨K, 0, none⟩) 1 1, .slice (some ⟨g, o, none⟩) lb cb]).run Yba.prog w = .ok (.value (.bool false)) w := by
  rcases hown.2 with ⟨h, _⟩ | ⟨g', cap', cur, hv, hb, hg, hnc, hcm, hcs, htake⟩
  · cases h
  · cases hv
    rw [run_callFunc_extern Yba.func42 (by kernel_rfl) (by kernel_rfl) (by kernel_rfl) (e := Extern.SlicesOverlaps.overlaps #[27, 27] #[4]) (by kernel_rfl),
      Lib.run_overlaps_apart w 27 4 24 Yba.underlying27 1 size24 ⟨K, 0, none⟩ ⟨g, o, none⟩ 1 1 lb cb hne 24 24 1 cap (by simp [World.shape?, hK]) (by simp [World.shape?, hg]; omega) (by omega) (by simp [World.frozen?, hK]) (by simp [World.frozen?, hK])]
    rfl

theorem own_zero {w : World} {C n : Nat} (R : Array Value) (hR : R.size = C) (hn : n ≤ C) (hm : C ≤ maxLen) : (w.drew.alloc (.cells R 24)).ownsRow 0 24 1 (.slice (some ⟨w.heap.size, 0, none⟩) n C) n (R.toList.take n) := by
  refine ⟨by simp; omega, .inr ⟨w.heap.size, C, R, rfl, Nat.zero_le _, heap_alloc_new w.drew _, hn, hm, by omega, by simp⟩⟩

set_option maxHeartbeats 1600000 in
set_option maxRecDepth 100000 in
theorem insk_any (g n cap : Nat) (xs : List Value) (w : World) (h1 : ∀ u ∈ xs, u.oneCell' = true) (hown : w.ownsRow 0 24 1 (.slice (some ⟨g, 0, none⟩) n cap) n xs) (hn0 : 0 < n) (hn1 : n ≤ 10000) (K : Nat) (u : Value) (hu : u.oneCell' = true) (hK : w.heap[K]? = some (.cells #[u] 24 (0, 0))) (hne : K ≠ g) :
    Calls Yba.prog 29 #[.slice (some ⟨g, 0, none⟩) n cap, .int .i64 0, .slice (some ⟨K, 0, none⟩) 1 1] w fun r w' => ∃ g' cap', r = .returned (.slice (some ⟨g', 0, none⟩) (n + 1) cap') ∧
      w'.ownsRow 0 24 1 (.slice (some ⟨g', 0, none⟩) (n + 1) cap') (n + 1) (u :: xs) ∧ Keeps (fun b => b = g) w w' ∧ (g' = g ∨ w.heap.size ≤ g') := by
  obtain ⟨i0, hi, hi0, hi1, hi2⟩ := info_parts Yba.info24
  have hnc := own_cap hown
  have hmx := own_max hown
  have hxl : xs.length = n := by have := hown.1; omega
  have hgl := (hown.lt g rfl).2
  have hkl : K < w.heap.size := (Array.getElem?_eq_some_iff.1 hK).1
  have hKc : w.cell? ⟨K, 0, none⟩ = some u := by simp [World.cell?, hK]
  have hne0 : ((0 : Int) == (n : Int)) = false := by simp; omega
  have hw1 : IntKind.i64.wrap 1 = 1 := by rw [IntKind.wrap_i64]; omega
  have b1 : (1 : Int) ≤ (n : Int) + 1 := by omega
  have b2 : (0 : Int) ≤ (n : Int) + 1 := by omega
  have b3 : (0 : Int) ≤ (n : Int) := by omega
  by_cases hr : n + 1 ≤ cap
  · have hgt : decide ((cap : Int) < (n : Int) + 1) = false := by simp; omega
    obtain ⟨ys, hyl, hoy⟩ := own_more hown 1 hr
    have hov := fun lb cb => over_apart w g n cap xs hown (by omega) K u hK hne 1 lb cb
    have hc1 : ¬ cap = 1 := by omega
    have hc0 : ¬ cap = 0 := by omega
    have kd := (Keeps.refl (fun _ => False) w).drew
    have hod := kd.own hoy (fun _ _ h => h)
    have hxt : Hid (xs = ((xs ++ ys).drop 0).take n) := by unfold Hid; rw [List.drop_zero, List.take_left' hxl]
    have hKd : w.drew.cell? ⟨K, 0, none⟩ = some u := hKc
    go_enter Yba.func29, Yba.ntmps29
    go_upto_region 15 with (simp only [hov])
    go_region_held3 (fun _ => True) (trivial) ((refine step_copy_in rfl (.tmp 73) (.tmp 76) 27 27 rfl 24 Yba.underlying27 Yba.size24 g (n + 1) cap _ hod _ _ _ 1 n _ _ _ rfl rfl (by simp) (by intro hne; simp) xs (src_mid hod 0 n _ _ xs (by omega) hxt.out h1 (by intro hne; simp)) (by omega) ?_; intro w3 ho3 hk3))
    have hK3 := hk3.cells hne hKd
    have hsK : Src w3 1 (.slice (some ⟨K, 0, none⟩) 1 1) 1 [u] := ⟨rfl, by simpa using hu, some ⟨K, 0, none⟩, 1, rfl, (fun h => by cases h), fun a ha j v hj => by cases ha; cases j with | zero => simp at hj; subst hj; exact hK3 | succ j => simp at hj⟩
    go_wp2_with (refine wpList_copy_in rfl (.tmp 80) (.tmp 81) 27 27 rfl 24 Yba.underlying27 Yba.size24 g (n + 1) cap _ ho3 _ _ _ 0 1 _ _ _ rfl rfl (nmin (by omega)) (by intro hne; simp) [u] hsK (by omega) ?_; intro w4 ho4 hk4)
    go_ret
    have hfin : [u] ++ ((xs ++ ys).take 1 ++ (xs ++ (xs ++ ys).drop (1 + n))).drop 1 = u :: xs := by
      rw [List.drop_of_length_le (i := 1 + n) (by simp; omega), List.drop_left' (by simp; omega)]; simp
    refine ⟨g, cap, rfl, by rw [← hfin]; simpa using ho4, ?_, .inl rfl⟩
    exact (((kd.mono (fun _ _ h => h.elim)).trans hk3 (fun b hb h => h))).trans hk4 (fun b hb h => h)
  · have hgt : decide ((cap : Int) < (n : Int) + 1) = true := by simp; omega
    have hrun := run_append_grow_zeros (P := Yba.prog) w 27 3 27 24 i0 (.pointer none) .i64 .i64 Yba.underlying27 Yba.underlying3 hi hi0 (by omega) ⟨g, 0, none⟩ 0 cap [] (by simp) (by simp) (n + 1) (by omega) (by omega) (by omega) (by rw [hi2]; omega) (growslice_fits (by omega) (by rw [hi2]; omega))
    rw [Nat.zero_add] at hrun
    have hge := grownCap_ge w (n + 1) cap 24
    have hle := grownCap_le_maxLen w (n + 1) cap 24 (by unfold maxLen; omega)
    generalize hC : grownCap w (n + 1) cap 24 = C at *
    have hz := own_zero (w := w) (C := C) (n := n + 1) (#[] ++ Builtin.zeroCells (Value.pointer none).cells (n + 1) ++ Builtin.zeroCells (Value.pointer none).cells (C - (n + 1))) (by simp [size_zeroCells, Value.cells]; omega) hge hle
    have ko : Keeps (fun _ => False) w (w.drew.alloc (.cells (#[] ++ Builtin.zeroCells (Value.pointer none).cells (n + 1) ++ Builtin.zeroCells (Value.pointer none).cells (C - (n + 1))) 24)) := ((Keeps.refl _ w).drew).alloc _
    generalize hR : (#[] ++ Builtin.zeroCells (Value.pointer none).cells (n + 1) ++ Builtin.zeroCells (Value.pointer none).cells (C - (n + 1))) = R at *
    have hrun' : (Builtin.append_ #[27, 3] 27 #[.slice (some ⟨g, 0, none⟩) 0 cap, .int .i64 ((n + 1 : Nat) : Int)]).run Yba.prog w = .ok (.slice (some ⟨w.heap.size, 0, none⟩) (n + 1) C) (w.drew.alloc (.cells R 24)) := by
      rw [hrun, ← hR]
    generalize R.toList.take (n + 1) = zs at *
    have hs0 : w.heap.size < (w.drew.alloc (.cells R 24)).heap.size := by simp
    generalize (w.drew.alloc (.cells R 24)) = w1 at *
    have hle' : C ≤ 9223372036854775807 := by unfold maxLen at hle; omega
    clear hrun hR hC
    have hzl : zs.length = n + 1 := by have := hz.1; omega
    have hK1 := ko.cells (fun h => h) hKc
    have hx1 := ko.own hown (fun _ _ h => h)
    have hsK : Src w1 1 (.slice (some ⟨K, 0, none⟩) 1 1) 1 [u] := ⟨rfl, by simpa using hu, some ⟨K, 0, none⟩, 1, rfl, (fun h => by cases h), fun a ha j v hj => by cases ha; cases j with | zero => simp at hj; subst hj; exact hK1 | succ j => simp at hj⟩
    go_enter Yba.func29, Yba.ntmps29
    go_upto_region 11 with (first | (at_builtin; go_loud (refine Lib.wpList_append_run _ rfl (.tmp 34) (.tmp 39) 27 3 rfl _ _ rfl (by show Value.int _ _ = _; first | rfl | (congr 1; omega)) _ _ hrun' ?_)) | (refine wpList_copy_in rfl (.tmp 43) (.tmp 44) 27 27 rfl 24 Yba.underlying27 Yba.size24 w.heap.size (n + 1) C zs hz _ _ _ 0 1 _ _ _ rfl rfl (nmin (by omega)) (by intro hne; simp) [u] hsK (by omega) ?_; intro w2 ho2 hk2))
    have kd := (Keeps.refl (fun _ => False) w2).drew
    have ho2d := kd.own ho2 (fun _ _ h => h)
    have hx2 := kd.own (hk2.own hx1 (fun b hb e => by simp [Value.ownBlock] at hb; omega)) (fun _ _ h => h)
    have hCn : ¬ C = 1 := by omega
    have hcn : ¬ cap = 0 := by omega
    have hfin : ([u] ++ zs.drop 1).take 1 ++ (xs ++ ([u] ++ zs.drop 1).drop (1 + n)) = u :: xs := by
      rw [List.drop_of_length_le (i := 1 + n) (by simp; omega)]; simp
    rw [List.take_zero, List.nil_append] at ho2d
    go_region_held3 (fun _ => True) (trivial) ((refine step_copy_in rfl (.tmp 50) (.tmp 53) 27 27 rfl 24 Yba.underlying27 Yba.size24 w.heap.size (n + 1) C _ ho2d _ _ _ 1 n _ _ _ rfl rfl (nmin (by omega)) (by intro hne; simp) xs (src_mid hx2 0 n _ _ xs (by omega) (by rw [List.drop_zero, List.take_of_length_le (by omega)]) h1 (by intro hne; simp)) (by omega) ?_; intro w3 ho3 hk3))
    go_wp2
    go_ret
    refine ⟨w.heap.size, C, rfl, by rw [← hfin]; simpa using ho3, ?_, .inr (Nat.le_refl _)⟩
    exact (((ko.mono (fun _ _ h => h.elim)).trans hk2 (fun b hb h => by omega)).trans (kd.mono (T := fun _ => False) (fun _ _ h => h)) (fun _ _ h => h.elim)).trans hk3 (fun b hb h => by omega)
end Go.Proofs.Ybulkcday
