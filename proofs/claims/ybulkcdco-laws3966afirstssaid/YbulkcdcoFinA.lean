import Derived.Test.YbulkcdcoLaw
import Derived.Test.YbulkcdcoOpen
namespace Go.Proofs.Ybulkcdco
open Go.ChangeShapes Go.WideShapes Go.ChangeAt Go.RowKit

theorem firsts_walk {a : Option Addr} {len cap : Nat} {W : World} (hz : ∀ i, i < len → ∃ a0, a = some a0 ∧ ∃ (k p lo hi ef : Nat) (ln : Int), k < 256 ∧ p < 256 ∧ lo < 65536 ∧ hi < 65536 ∧ ef < 256 ∧ W.cell? (a0.add (i * 6)) = some (.int .u8 k) ∧ W.cell? ⟨(a0.add (i * 6)).block, (a0.add (i * 6)).off + 1, none⟩ = some (.int .u8 p) ∧ W.cell? ⟨(a0.add (i * 6)).block, (a0.add (i * 6)).off + 2, none⟩ = some (.int .u16 lo) ∧ W.cell? ⟨(a0.add (i * 6)).block, (a0.add (i * 6)).off + 3, none⟩ = some (.int .u16 hi) ∧ W.cell? ⟨(a0.add (i * 6)).block, (a0.add (i * 6)).off + 4, none⟩ = some (.int .u8 ef) ∧ W.cell? ⟨(a0.add (i * 6)).block, (a0.add (i * 6)).off + 5, none⟩ = some (.int .i64 ln)) :
    Calls Yba.prog 3 #[.slice a len cap] W fun e w' => e = .returned (.bool true) ∧ Below W.heap.size W w' := by
  by_cases h : 1024 < len
  · exact (law_big W a len cap h).mono fun e w' h => ⟨h.1, h.2.below (Nat.le_refl _) (fun _ h => h.elim)⟩
  · exact (law_any W a len cap (by omega) hz).mono fun e w' h => ⟨h.1, h.2.below (Nat.le_refl _) (fun _ h => h.elim)⟩

set_option maxRecDepth 100000 in
theorem firsts_lifted (os : Os) (started : os.Started) (H : Type) (enc : TypeId × Value → H) :
    ReturnsInHanded {} Yba.checked os 3 .any (Rows.lawS3966AFirstsSpec.pre6 enc Yba.prog Yba.f3 Rows.lawS3966AFirstsRow.domain false) (Rows.lawS3966AFirstsSpec.post enc Yba.prog Yba.f3 false true false false) := by
  refine returnsInHanded_of_change (C := Yba.checked) Yba.own started (by kernel_rfl) Yba.func3
    (ChangeSpec.witness6 (enc := enc) (C := Yba.checked) false ⟨#[], #[.slice none 0 0], []⟩ 8 (by kernel_rfl) (by kernel_rfl) (by kernel_rfl) (by kernel_rfl)) ?_
  intro W base args ds gs before hval0 hW hcnd _
  have hval : ∀ (j : Nat) t v, Yba.f3.params[j]? = some t → args[j]? = some v → Value.okWide Yba.prog W .any base t v := hval0
  have hW' := hW
  obtain ⟨p, q, hA0, hV, rfl, hfz, hnd⟩ := hW
  have hA : DataW.TrodAll enc Yba.prog W 0 (fun _ => true) true Yba.f3.params.toList args.toList ds p := hA0
  rw [Yba.params3] at hA hval
  obtain ⟨v0, vs0, d0, ds0, p0, q0, hargs, rfl, rfl, h0, r0⟩ := trodAll_cons hA
  obtain ⟨rfl, rfl, rfl⟩ := trodAll_nil r0
  obtain rfl : args = #[v0] := by cases args; simp_all
  obtain ⟨rfl, rfl⟩ := trodVars_none hV
  obtain ⟨a0, len0, cap0, rfl⟩ := okWide_slice Yba.underlying22 (hval 0 22 v0 rfl rfl)
  have k0 := h0
  have lt0 : ∀ x ∈ p0, x.block < W.heap.size := by obtain ⟨m, hm⟩ := k0; exact DataW.trod_lt m _ _ _ hm
  clear hA0 hval0
  obtain ⟨fuel, hf⟩ := h0
  have hz := open_steps hf
  refine (firsts_walk (cap := cap0) hz).mono fun e W' ⟨he, bel⟩ => ?_
  subst he
  exact ⟨_, rfl, _, _, _, [], _, [], hW', trodAll_mk1 (shut_bool Yba.underlying4 _), (trodAll_cons_mk (Below.trod Yba.laidOut (by kernel_rfl) (of_decide_eq_true (by kernel_rfl)) k0 bel lt0) trodAll_mk0), rfl, bel.frame _, fun h => by cases h⟩

theorem firsts_over : Rows.lawS3966AFirstsRow.holds Yba.pinned (OpenSpec.ofChange Rows.lawS3966AFirstsSpec) :=
  OpenClaim.holds_of_wide 3 Yba.f3 rfl rfl rfl rfl rfl rfl rfl ⟨rfl, rfl, rfl, rfl, rfl⟩ rfl rfl rfl rfl rfl (by kernel_rfl) Yba.func3 (by kernel_rfl)
    (of_decide_eq_true (by kernel_rfl)) (by unfold Func.isWrapper; first | (rw [if_pos (by decide +kernel)]; kernel_rfl) | (rw [if_neg (by decide +kernel)]; exact ⟨rfl, rfl⟩))
    (fun os started H enc _ => firsts_lifted os started H enc)

theorem firsts_proved : Rows.LawS3966AFirstsSaid := firsts_over
end Go.Proofs.Ybulkcdco
