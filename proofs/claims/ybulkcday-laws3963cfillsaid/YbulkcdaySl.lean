import Derived.Test.YbulkcdayRows
import Derived.Test.YbulkcdayOwn
import Derived.Deep.QuietTactic
import Derived.BigQuiet
namespace Go.Proofs.Ybulkcday
open Go.RowKit

theorem Yba.info5 : (Yba.prog.info? 5).map (fun i => (i.zero, i.size, i.bytes)) = some (some (.int .u8 0), 1, 1) := by kernel_rfl
theorem Yba.info3 : (Yba.prog.info? 3).map (fun i => (i.zero, i.size, i.bytes)) = some (some (.int .i64 0), 1, 8) := by kernel_rfl
theorem Yba.info24 : (Yba.prog.info? 24).map (fun i => (i.zero, i.size, i.bytes)) = some (some (.pointer none), 1, 8) := by kernel_rfl
theorem Yba.info9 : (Yba.prog.info? 9).map (fun i => (i.zero, i.size, i.bytes)) = some (some (.string ⟨#[]⟩), 1, 16) := by kernel_rfl

theorem wpList_clear_own {P : Program} {w : World} {ops : Array Oper} {rest : List Oper} {o : Oper} {a : Act} {Q : Exit → Act → World → Prop} (hgd : o.guard = none) (s : Operand) (t : TypeId)
    (ho : o.op = .call { callee := .builtin .clear, args := #[s], argTypes := #[t] }) (e : TypeId) (z : Value) (ht : P.underlying t = some (.slice e)) (hv : ∀ w, (zeroValue e).run P w = .ok z w) (hz : z.cells = #[z]) (h1 : z.oneCell' = true)
    (g n k c cap : Nat) (hs : a.eval s = .slice (some ⟨g, n, none⟩) k c) (hk : 0 < k) (xs : List Value) (hown : w.ownsRow 0 e 1 (.slice (some ⟨g, 0, none⟩) n cap) n xs) (hc : n + k ≤ cap)
    (h : ∀ w', w'.ownsRow 0 e 1 (.slice (some ⟨g, 0, none⟩) n cap) n xs → Keeps (fun b => b = g) w w' → wpList P ops Q rest (a.put o.dst (.tuple #[])) w') : wpList P ops Q (o :: rest) a w := by
  refine wpList_plain hgd fun K hK => ?_
  have hcf : (∀ j, j < k → (w.cell? ⟨g, n + j, none⟩).isSome = true) ∧ (∀ j, j < k → w.frozen? ⟨g, n + j, none⟩ = false) := by
    rcases hown.2 with ⟨h, _⟩ | ⟨g', cap', cur, hv', hb, hg, hnc, hcm, hcs, htake⟩
    · cases h
    · cases hv'
      exact ⟨fun j hj => by simp [World.cell?, hg]; omega, fun j hj => by simp [World.frozen?, hg]⟩
  have hrun := Lib.run_clear_slice (P := P) w t e o.type z ht hv hz h1 g n k c hk hcf.1 hcf.2
  unfold Oper.wp
  simp [execOp, ho, resolve, invoke, builtin, hs, hrun, Result.andThen]
  exact hK _ _ (h _ (own_setCells hown n (Nat.le_refl _) _) (Keeps.setCells (S := fun b => b = g) g (fun _ => rfl) _ _ _ (Keeps.refl _ w)))

theorem own_cap {w : World} {e : TypeId} {g n cap : Nat} {xs : List Value} (h : w.ownsRow 0 e 1 (.slice (some ⟨g, 0, none⟩) n cap) n xs) : n ≤ cap := by
  rcases h.2 with ⟨h, _⟩ | ⟨g', cap', cur, hv, hb, hg, hnc, hcm, hcs, htake⟩
  · cases h
  · cases hv; exact hnc

theorem zero3 (w : World) : (zeroValue 3).run Yba.prog w = .ok (.int .i64 0) w := by
  obtain ⟨i0, hi, hi0, _, _⟩ := info_parts Yba.info3
  simp [zeroValue, typeInfo, hi, hi0]

set_option maxHeartbeats 800000 in
theorem del13_any (g n cap i j : Nat) (xs : List Value) (w : World) (h1 : ∀ u ∈ xs, u.oneCell' = true) (hown : w.ownsRow 0 3 1 (.slice (some ⟨g, 0, none⟩) n cap) n xs) (hij : i < j) (hj : j ≤ n) (hcap : cap ≤ 9223372036854775807) :
    Calls Yba.prog 13 #[.slice (some ⟨g, 0, none⟩) n cap, .int .i64 i, .int .i64 j] w fun r w' => r = .returned (.slice (some ⟨g, 0, none⟩) (i + (n - j)) cap) ∧
      w'.ownsRow 0 3 1 (.slice (some ⟨g, 0, none⟩) (i + (n - j)) cap) (i + (n - j)) (xs.take i ++ xs.drop j) ∧ Keeps (fun b => b = g) w w' := by
  obtain ⟨i0, hi, hi0, hi1, hi2⟩ := info_parts Yba.info3
  have hne : ((i : Int) == (j : Int)) = false := by simp; omega
  have hnc : n ≤ cap := own_cap hown
  have b1 : (i : Int) ≤ (cap : Int) := by omega
  have b2 : (j : Int) ≤ (n : Int) := by omega
  have b3 : (0 : Int) ≤ (i : Int) := by omega
  have b4 : (0 : Int) ≤ (j : Int) := by omega
  have hownd := ((Keeps.refl (fun _ => False) w).drew).own hown (fun _ _ h => h)
  have hcl : ¬ cap = i + (n - j) := by omega
  go_enter Yba.func13, Yba.ntmps13
  go_wp2
  go_region_held3 (fun _ => True) (trivial) ((refine step_app_room rfl (.tmp 22) (.tmp 25) 26 rfl 3 i0 Yba.underlying26 hi hi1 g i cap (xs.take i) (by simp [Act.eval]) (own_take hownd i (by omega)) _ rfl (n - j) (xs.drop j) (src_cut hownd h1 j (n - j) _ _ (by omega) (by intro h0; simp [show ¬ cap = j by omega])) (by omega) ?_; intro w1 ho1 hk1))
  go_wp2_with (refine wpList_clear_own rfl (.tmp 31) 26 rfl 3 (.int .i64 0) Yba.underlying26 zero3 rfl rfl g (i + (n - j)) (n - (i + (n - j))) _ cap rfl (by omega) _ ho1 (by omega) ?_; intro w2 ho2 hk2; have hkk := ((Keeps.refl (fun b => b = g) w).drew.trans hk1 (fun _ _ h => h)).trans hk2 (fun _ _ h => h))
  all_goals go_ret
  all_goals first | exact ⟨rfl, ho2, hkk⟩ | (subst_vars; exact ⟨rfl, ho2, hkk⟩)

theorem zero5 (w : World) : (zeroValue 5).run Yba.prog w = .ok (.int .u8 0) w := by
  obtain ⟨i0, hi, hi0, _, _⟩ := info_parts Yba.info5
  simp [zeroValue, typeInfo, hi, hi0]

set_option maxHeartbeats 800000 in
theorem del41_any (g n cap i j : Nat) (xs : List Value) (w : World) (h1 : ∀ u ∈ xs, u.oneCell' = true) (hown : w.ownsRow 0 5 1 (.slice (some ⟨g, 0, none⟩) n cap) n xs) (hij : i < j) (hj : j ≤ n) (hcap : cap ≤ 9223372036854775807) :
    Calls Yba.prog 41 #[.slice (some ⟨g, 0, none⟩) n cap, .int .i64 i, .int .i64 j] w fun r w' => r = .returned (.slice (some ⟨g, 0, none⟩) (i + (n - j)) cap) ∧
      w'.ownsRow 0 5 1 (.slice (some ⟨g, 0, none⟩) (i + (n - j)) cap) (i + (n - j)) (xs.take i ++ xs.drop j) ∧ Keeps (fun b => b = g) w w' := by
  obtain ⟨i0, hi, hi0, hi1, hi2⟩ := info_parts Yba.info5
  have hne : ((i : Int) == (j : Int)) = false := by simp; omega
  have hnc : n ≤ cap := own_cap hown
  have b1 : (i : Int) ≤ (cap : Int) := by omega
  have b2 : (j : Int) ≤ (n : Int) := by omega
  have b3 : (0 : Int) ≤ (i : Int) := by omega
  have b4 : (0 : Int) ≤ (j : Int) := by omega
  have hownd := ((Keeps.refl (fun _ => False) w).drew).own hown (fun _ _ h => h)
  have hcl : ¬ cap = i + (n - j) := by omega
  go_enter Yba.func41, Yba.ntmps41
  go_wp2
  go_region_held3 (fun _ => True) (trivial) ((refine step_app_room rfl (.tmp 22) (.tmp 25) 25 rfl 5 i0 Yba.underlying25 hi hi1 g i cap (xs.take i) (by simp [Act.eval]) (own_take hownd i (by omega)) _ rfl (n - j) (xs.drop j) (src_cut hownd h1 j (n - j) _ _ (by omega) (by intro h0; simp [show ¬ cap = j by omega])) (by omega) ?_; intro w1 ho1 hk1))
  go_wp2_with (refine wpList_clear_own rfl (.tmp 31) 25 rfl 5 (.int .u8 0) Yba.underlying25 zero5 rfl rfl g (i + (n - j)) (n - (i + (n - j))) _ cap rfl (by omega) _ ho1 (by omega) ?_; intro w2 ho2 hk2; have hkk := ((Keeps.refl (fun b => b = g) w).drew.trans hk1 (fun _ _ h => h)).trans hk2 (fun _ _ h => h))
  all_goals go_ret
  all_goals first | exact ⟨rfl, ho2, hkk⟩ | (subst_vars; exact ⟨rfl, ho2, hkk⟩)

theorem zero24 (w : World) : (zeroValue 24).run Yba.prog w = .ok (.pointer none) w := by
  obtain ⟨i0, hi, hi0, _, _⟩ := info_parts Yba.info24
  simp [zeroValue, typeInfo, hi, hi0]

set_option maxHeartbeats 800000 in
theorem del30_any (g n cap i j : Nat) (xs : List Value) (w : World) (h1 : ∀ u ∈ xs, u.oneCell' = true) (hown : w.ownsRow 0 24 1 (.slice (some ⟨g, 0, none⟩) n cap) n xs) (hij : i < j) (hj : j ≤ n) (hcap : cap ≤ 9223372036854775807) :
    Calls Yba.prog 30 #[.slice (some ⟨g, 0, none⟩) n cap, .int .i64 i, .int .i64 j] w fun r w' => r = .returned (.slice (some ⟨g, 0, none⟩) (i + (n - j)) cap) ∧
      w'.ownsRow 0 24 1 (.slice (some ⟨g, 0, none⟩) (i + (n - j)) cap) (i + (n - j)) (xs.take i ++ xs.drop j) ∧ Keeps (fun b => b = g) w w' := by
  obtain ⟨i0, hi, hi0, hi1, hi2⟩ := info_parts Yba.info24
  have hne : ((i : Int) == (j : Int)) = false := by simp; omega
  have hnc : n ≤ cap := own_cap hown
  have b1 : (i : Int) ≤ (cap : Int) := by omega
  have b2 : (j : Int) ≤ (n : Int) := by omega
  have b3 : (0 : Int) ≤ (i : Int) := by omega
  have b4 : (0 : Int) ≤ (j : Int) := by omega
  have hownd := ((Keeps.refl (fun _ => False) w).drew).own hown (fun _ _ h => h)
  have hcl : ¬ cap = i + (n - j) := by omega
  go_enter Yba.func30, Yba.ntmps30
  go_wp2
  go_region_held3 (fun _ => True) (trivial) ((refine step_app_room rfl (.tmp 22) (.tmp 25) 27 rfl 24 i0 Yba.underlying27 hi hi1 g i cap (xs.take i) (by simp [Act.eval]) (own_take hownd i (by omega)) _ rfl (n - j) (xs.drop j) (src_cut hownd h1 j (n - j) _ _ (by omega) (by intro h0; simp [show ¬ cap = j by omega])) (by omega) ?_; intro w1 ho1 hk1))
  go_wp2_with (refine wpList_clear_own rfl (.tmp 31) 27 rfl 24 (.pointer none) Yba.underlying27 zero24 rfl rfl g (i + (n - j)) (n - (i + (n - j))) _ cap rfl (by omega) _ ho1 (by omega) ?_; intro w2 ho2 hk2; have hkk := ((Keeps.refl (fun b => b = g) w).drew.trans hk1 (fun _ _ h => h)).trans hk2 (fun _ _ h => h))
  all_goals go_ret
  all_goals first | exact ⟨rfl, ho2, hkk⟩ | (subst_vars; exact ⟨rfl, ho2, hkk⟩)

end Go.Proofs.Ybulkcday
