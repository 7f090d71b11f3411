import Derived.Test.YbulkcdayIns
namespace Go.Proofs.Ybulkcday
open Go.RowKit

/-- c of the numbers are lowered already. -/
def lowered (sz c : Nat) (l : List Nat) : List Nat := (l.take c).map (· - sz) ++ l.drop c
theorem lowered_get (sz c : Nat) (l : List Nat) (h : c < l.length) : (ivals (lowered sz c l))[c]? = some (.int .i64 ((l[c] : Nat) : Int)) := by
  simp only [ivals, lowered, List.getElem?_map, List.getElem?_append, List.length_map, List.length_take]
  rw [if_neg (by omega), List.getElem?_drop, show c + (c - min c l.length) = c by omega]
  simp [h]
theorem lowered_set (sz c : Nat) (l : List Nat) (h : c < l.length) : (ivals (lowered sz c l)).set c (.int .i64 (((l[c] - sz : Nat)) : Int)) = ivals (lowered sz (c + 1) l) := by
  unfold ivals lowered
  rw [← List.map_set]
  congr 1
  rw [List.set_append, if_neg (by simp; omega)]
  rw [List.take_succ_eq_append_getElem h, List.map_append, List.append_assoc]
  congr 1
  rw [show c - ((l.take c).map (· - sz)).length = 0 by simp; omega]
  rw [List.drop_eq_getElem_cons h, List.set_cons_zero]
  rfl
theorem lowered_all (sz : Nat) (l : List Nat) (c : Nat) (h : l.length ≤ c) : lowered sz c l = l.map (· - sz) := by
  unfold lowered; rw [List.take_of_length_le h, List.drop_of_length_le h]; simp

set_option maxHeartbeats 3200000 in
set_option maxRecDepth 100000 in
theorem del_raw {w : World} {p gt T ct ge N ce : Nat} {vk : Value} {X : List Value} {zl : List Nat} (h : Raw w p gt T ct ge N ce vk X (ivals zl)) (i o e : Nat) (hi : i < N) (hN : N ≤ 10000) (hoe : o < e) (heT : e ≤ T)
    (h0 : i = 0 → o = 0) (hc : 0 < i → w.cell? ⟨ge, i - 1, none⟩ = some (.int .i64 o)) (hce : w.cell? ⟨ge, i, none⟩ = some (.int .i64 e)) (hzb : ∀ z ∈ zl.drop (i + 1), e ≤ z ∧ z ≤ 1000000) (h1 : ∀ u ∈ X, u.oneCell' = true) :
    Calls Yba.prog 28 #[.pointer (some ⟨p, 0, none⟩), .int .i64 i] w fun r w' => r = .returned (.tuple #[]) ∧ ∃ ct' ce', Raw w' p gt (o + (T - e)) ct' ge (N - 1) ce' vk (X.take o ++ X.drop e) (ivals (zl.take i ++ (zl.drop (i + 1)).map (· - (e - o)))) ∧
      Keeps (fun b => b = p ∨ b = gt ∨ b = ge) w w' := by
  have hzl : zl.length = N := by have := h.ens.1; simp [ivals] at this; omega
  generalize hZ : ivals zl = Z at h
  have HZ := Hid.mk' hZ
  clear hZ
  obtain ⟨c0, c1, f0, f1⟩ := h.cells
  have hst := fun nq => start_raw (w := w.drewN nq) c1 hN (by omega) h0 hc
  have hnc := own_cap h.txt
  have hne := own_cap h.ens
  have hmx : ct ≤ 9223372036854775807 ∧ ce ≤ 9223372036854775807 := own_max2 h.txt h.ens
  have hii : (i : Int) < (N : Int) := by omega
  have h1Z : ∀ u ∈ Z, u.oneCell' = true := fun u hu => ivals_one zl u (by rw [HZ.out]; exact hu)
  go_enter Yba.func28, Yba.ntmps28
  go_wp2
  go_quiet ((go_at_call 33; exact Calls.quiet_of_same (hst _)))
  clear hst
  go_wp2_with fail
  have hd := (Keeps.refl (fun _ => False) w).drewN nq
  refine (del41_any gt T ct o e X _ h1 (hd.own h.txt (fun _ _ h => h)) hoe heT hmx.1).mono ?_
  rintro r w1 ⟨rfl, ho1, hk1'⟩
  have hk1 : Keeps (fun b => b = gt) w w1 := (hd.mono (fun _ _ h => h.elim)).trans hk1' (fun _ _ h => h)
  have R2 := h.store0 hk1 ho1 (.inl rfl)
  have hpl : p < w.heap.size := (Array.getElem?_eq_some_iff.1 h.blk).1
  have hF2 : Keeps (fun b => b = p ∨ b = gt) w (w1.setCell ⟨p, 0, none⟩ (.slice (some ⟨gt, 0, none⟩) (o + (T - e)) ct)) := (hk1.mono (fun _ _ h => .inr h)).setCell (p := ⟨p, 0, none⟩) (fun _ => .inl rfl) _
  have d0 : w1.cell? ⟨p, 0, none⟩ = some (.slice (some ⟨gt, 0, none⟩) T ct) := hk1.cells h.pt c0
  have d1 : w1.frozen? ⟨p, 0, none⟩ = false := by rw [← f0]; exact World.frozen?_of_block (hk1.block p hpl h.pt)
  clear hk1 hk1' ho1 c0 c1 f0 f1 hc hce hd
  go_upto_region 2 with fail
  generalize (w1.setCell ⟨p, 0, none⟩ (.slice (some ⟨gt, 0, none⟩) (o + (T - e)) ct)) = w2 at *
  clear d0 d1
  obtain ⟨c0, c1, f0, f1⟩ := R2.cells
  go_wp2_with fail
  rw [show (i : Int) + 1 = ((i + 1 : Nat) : Int) from by omega]
  refine (del13_any ge N ce i (i + 1) Z w2 h1Z R2.ens (by omega) (by omega) hmx.2).mono ?_
  rintro r w3 ⟨rfl, ho3, hk3⟩
  rw [show i + (N - (i + 1)) = N - 1 by omega] at *
  have R4 := R2.store1 hk3 ho3 (.inl rfl)
  have hp2 : p < w2.heap.size := (Array.getElem?_eq_some_iff.1 R2.blk).1
  have hF4 : Keeps (fun b => b = p ∨ b = gt ∨ b = ge) w (w3.setCell ⟨p, 1, none⟩ (.slice (some ⟨ge, 0, none⟩) (N - 1) ce)) := ((hF2.mono (fun b _ h => by omega)).trans hk3 (fun b _ h => by omega)).setCell (p := ⟨p, 1, none⟩) (fun _ => .inl rfl) _
  have d0 : w3.cell? ⟨p, 1, none⟩ = some (.slice (some ⟨ge, 0, none⟩) N ce) := hk3.cells R2.pe c1
  have d1 : w3.frozen? ⟨p, 1, none⟩ = false := by rw [← f1]; exact World.frozen?_of_block (hk3.block p hp2 R2.pe)
  have hEq : Z.take i ++ Z.drop (i + 1) = ivals (zl.take i) ++ ivals (lowered (e - o) 0 (zl.drop (i + 1))) := by
    rw [← HZ.out]; simp [ivals, lowered]
  rw [hEq] at R4
  have hAl : (ivals (zl.take i)).length = i := by simp [ivals]; omega
  have hll : (zl.drop (i + 1)).length = N - 1 - i := by simp; omega
  have hfin : Hid (ivals (zl.take i) ++ ivals ((zl.drop (i + 1)).map (· - (e - o))) = ivals (zl.take i ++ (zl.drop (i + 1)).map (· - (e - o)))) := by unfold Hid; simp [ivals]
  generalize ivals (zl.take i) = A at *
  generalize hl : zl.drop (i + 1) = l at *
  have HL := Hid.mk' hl
  clear hl
  clear hk3 ho3 c0 c1 f0 f1 hF2 R2 hEq h1Z h1 h
  go_upto_region 3 with fail
  generalize (w3.setCell ⟨p, 1, none⟩ (.slice (some ⟨ge, 0, none⟩) (N - 1) ce)) = w4 at *
  clear d0 d1
  go_wp2
  go_loopw [6] (fun j wr => ∃ c : Nat, c ≤ N - 1 - i ∧ j = .int .i64 ((i + c : Nat) : Int) ∧ Raw wr p gt (o + (T - e)) ct ge (N - 1) ce vk (X.take o ++ X.drop e) (A ++ ivals (lowered (e - o) c l)) ∧ Keeps (fun b => b = p ∨ b = gt ∨ b = ge) w wr) (fun j _ => N - (intOf j).toNat)
  case atStart => exact ⟨0, by omega, by go_num, R4, hF4⟩
  case round =>
    obtain ⟨c, hc2, rfl, R, hFr⟩ := hrel
    clear R4 hF4
    obtain ⟨c0, c1, f0, f1⟩ := R.cells
    by_cases hlt : c < N - 1 - i
    · have hcl : c < l.length := by omega
      have hb := hzb l[c] (by simp)
      have g1 : wr.cell? ⟨ge, i + c, none⟩ = some (.int .i64 ((l[c] : Nat) : Int)) := by
        rw [R.ens.cellAt (i + c) (by omega), List.getElem?_append_right (by omega), show i + c - A.length = c by omega, lowered_get _ _ _ hcl]
      have g2 := R.ens.frozenAt (i + c)
      have R' := R.row1 (Keeps.of_grown (R.ens.stored (i + c) (.int .i64 (((l[c] - (e - o) : Nat)) : Int))).2 (fun k h => by simpa using h.symm)) (R.ens.stored (i + c) (.int .i64 (((l[c] - (e - o) : Nat)) : Int))).1
      rw [List.set_append, if_neg (by omega), show i + c - A.length = c by omega, lowered_set _ _ _ hcl] at R'
      have hF' := hFr.setCell (p := ⟨ge, i + c, none⟩) (fun _ => .inr (.inr rfl)) (.int .i64 (((l[c] - (e - o) : Nat)) : Int))
      generalize l[c] = z at *
      rw [show (((z - (e - o) : Nat)) : Int) = (z : Int) - ((e : Int) - (o : Int)) by omega] at R' hF'
      go_wp2
      go_roundw
      case rel => exact ⟨c + 1, by omega, by go_num, R', hF'⟩
      case measure => simp [intOf]; omega
    · obtain rfl : c = N - 1 - i := by omega
      rw [lowered_all _ _ _ (by omega), hfin.out] at R
      go_wp2
      go_end0
      exact ⟨rfl, ct, ce, by rw [HL.out]; exact R, hFr⟩
end Go.Proofs.Ybulkcday
