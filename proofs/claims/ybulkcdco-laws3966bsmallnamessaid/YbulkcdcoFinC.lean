import Derived.Test.YbulkcdcoFinB
import Derived.Test.YbulkcdcoSml
namespace Go.Proofs.Ybulkcdco
open Go.ChangeShapes Go.WideShapes Go.ChangeAt Go.RowKit Go.Deep

theorem sz50 : Yba.prog.cellsOf 50 = 3 := by kernel_rfl
theorem sz5' : Yba.prog.cellsOf 5 = 1 := by kernel_rfl
theorem nat_u8' {z : Int} (h : (Lit.int .u8 z).wf = true) : ∃ n : Nat, z = (n : Int) ∧ n < 256 := by
  simp [Lit.wf, show IntKind.u8.min = 0 from rfl, show IntKind.u8.max = 255 from rfl] at h
  exact ⟨z.toNat, by omega, by omega⟩
/-- The rows that came in. -/
theorem open_rows {H : Type} {enc : TypeId × Value → H} {w : World} {base : Nat} {spare : Nat → Bool} {held : Bool} {fuel : Nat} {a : Option Addr} {len cap : Nat} {x : DataW H × List MemPlace}
    (h : DataW.trod enc Yba.prog w base spare held fuel 47 [.slice a len cap] = some x) :
    ∀ i, i < len → ∃ a0, a = some a0 ∧ ∃ (l : Int) (m r : Nat), m < 256 ∧ r < 256 ∧ w.cell? (a0.add (i * 3)) = some (.int .i64 l) ∧ w.cell? ⟨(a0.add (i * 3)).block, (a0.add (i * 3)).off + 1, none⟩ = some (.int .u8 m) ∧ w.cell? ⟨(a0.add (i * 3)).block, (a0.add (i * 3)).off + 2, none⟩ = some (.int .u8 r) := by
  intro i hi
  rcases open_slice Yba.underlying47 h with ⟨hcs, _⟩ | ⟨a0, len', cap', m, n, D, Pl, hcs, _, hl, hm, hmm, _, hx⟩
  · simp at hcs; omega
  · simp only [List.cons.injEq, Value.slice.injEq, and_true] at hcs
    obtain ⟨rfl, rfl, rfl⟩ := hcs
    obtain ⟨cs', hc', ht'⟩ := hx i (by rw [hmm]; split <;> omega)
    rw [sz50] at hc'
    obtain ⟨_, hlen, hcell⟩ := World.cells?_some hc'
    obtain ⟨q, hq⟩ : ∃ q, a0.add (i * 3) = q := ⟨_, rfl⟩
    rw [hq] at hcell
    obtain ⟨xs, n', _, _, _, hxl, hf⟩ := DataW.trod_struct Yba.underlying50 ht'
    match cs', hlen with
    | [c0, c1, c2], _ =>
      match xs, hxl with
      | [y0, y1, y2], _ =>
        have g0 : DataW.trod enc Yba.prog w base spare held n' 3 [c0] = some y0 := by have := hf 0 _ rfl; simpa [sz3'] using this
        have g1 : DataW.trod enc Yba.prog w base spare held n' 5 [c1] = some y1 := by have := hf 1 _ rfl; simpa [sz5'] using this
        have g2 : DataW.trod enc Yba.prog w base spare held n' 5 [c2] = some y2 := by have := hf 2 _ rfl; simpa [sz5'] using this
        obtain ⟨z0, e0, _, w0⟩ := DataW.trod_int Yba.underlying3 g0
        obtain ⟨z1, e1, _, w1⟩ := DataW.trod_int Yba.underlying5 g1
        obtain ⟨z2, e2, _, w2⟩ := DataW.trod_int Yba.underlying5 g2
        simp at e0 e1 e2
        subst e0 e1 e2
        obtain ⟨k1, rfl, hk1⟩ := nat_u8' w1
        obtain ⟨k2, rfl, hk2⟩ := nat_u8' w2
        have r0 := hcell 0 (by omega)
        have r1 := hcell 1 (by omega)
        have r2 := hcell 2 (by omega)
        rw [add_pos' q 0] at r1
        rw [add_pos' q 1] at r2
        exact ⟨a0, rfl, z0, k1, k2, hk1, hk2, by rw [hq]; simpa [Addr.add] using r0, by rw [hq]; simpa using r1, by rw [hq]; simpa using r2⟩

theorem small_walk {a : Option Addr} {len cap : Nat} {W : World} (hz : ∀ i, i < len → ∃ a0, a = some a0 ∧ ∃ (l : Int) (m r : Nat), m < 256 ∧ r < 256 ∧ W.cell? (a0.add (i * 3)) = some (.int .i64 l) ∧ W.cell? ⟨(a0.add (i * 3)).block, (a0.add (i * 3)).off + 1, none⟩ = some (.int .u8 m) ∧ W.cell? ⟨(a0.add (i * 3)).block, (a0.add (i * 3)).off + 2, none⟩ = some (.int .u8 r)) :
    Calls Yba.prog 4 #[.slice a len cap] W fun e w' => e = .returned (.bool true) ∧ Below W.heap.size W w' := by
  by_cases h : 1024 < len
  · exact (small_big W a len cap h).mono fun e w' h => ⟨h.1, h.2.below (Nat.le_refl _) (fun _ h => h.elim)⟩
  · exact (small_any W a len cap (by omega) hz).mono fun e w' h => ⟨h.1, h.2.below (Nat.le_refl _) (fun _ h => h.elim)⟩

set_option maxRecDepth 100000 in
theorem small_lifted (os : Os) (started : os.Started) (H : Type) (enc : TypeId × Value → H) :
    ReturnsInHanded {} Yba.checked os 4 .any (Rows.lawS3966BSmallNamesSpec.pre6 enc Yba.prog Yba.f4 Rows.lawS3966BSmallNamesRow.domain false) (Rows.lawS3966BSmallNamesSpec.post enc Yba.prog Yba.f4 false true false false) := by
  refine returnsInHanded_of_change (C := Yba.checked) Yba.ownB started (by kernel_rfl) Yba.func4
    (ChangeSpec.witness6 (enc := enc) (C := Yba.checked) false ⟨#[], #[.slice none 0 0], []⟩ 8 (by kernel_rfl) (by kernel_rfl) (by kernel_rfl) (by kernel_rfl)) ?_
  intro W base args ds gs before hval0 hW hcnd _
  have hval : ∀ (j : Nat) t v, Yba.f4.params[j]? = some t → args[j]? = some v → Value.okWide Yba.prog W .any base t v := hval0
  have hW' := hW
  obtain ⟨p, q, hA0, hV, rfl, hfz, hnd⟩ := hW
  have hA : DataW.TrodAll enc Yba.prog W 0 (fun _ => true) true Yba.f4.params.toList args.toList ds p := hA0
  rw [Yba.params4] at hA hval
  obtain ⟨v0, vs0, d0, ds0, p0, q0, hargs, rfl, rfl, h0, r0⟩ := trodAll_cons hA
  obtain ⟨rfl, rfl, rfl⟩ := trodAll_nil r0
  obtain rfl : args = #[v0] := by cases args; simp_all
  obtain ⟨rfl, rfl⟩ := trodVars_none hV
  obtain ⟨a0, len0, cap0, rfl⟩ := okWide_slice Yba.underlying47 (hval 0 47 v0 rfl rfl)
  have k0 := h0
  have lt0 : ∀ x ∈ p0, x.block < W.heap.size := by obtain ⟨m, hm⟩ := k0; exact DataW.trod_lt m _ _ _ hm
  clear hA0 hval0
  obtain ⟨fuel, hf⟩ := h0
  have hz := open_rows hf
  refine (small_walk (cap := cap0) hz).mono fun e W' ⟨he, bel⟩ => ?_
  subst he
  exact ⟨_, rfl, _, _, _, [], _, [], hW', trodAll_mk1 (shut_bool Yba.underlying4 _), (trodAll_cons_mk (Below.trod Yba.laidOut (by kernel_rfl) (of_decide_eq_true (by kernel_rfl)) k0 bel lt0) trodAll_mk0), rfl, bel.frame _, fun h => by cases h⟩

theorem small_over : Rows.lawS3966BSmallNamesRow.holds Yba.pinned (OpenSpec.ofChange Rows.lawS3966BSmallNamesSpec) :=
  OpenClaim.holds_of_wide 4 Yba.f4 rfl rfl rfl rfl rfl rfl rfl ⟨rfl, rfl, rfl, rfl, rfl⟩ rfl rfl rfl rfl rfl (by kernel_rfl) Yba.func4 (by kernel_rfl)
    (of_decide_eq_true (by kernel_rfl)) (by unfold Func.isWrapper; first | (rw [if_pos (by decide +kernel)]; kernel_rfl) | (rw [if_neg (by decide +kernel)]; exact ⟨rfl, rfl⟩))
    (fun os started H enc _ => small_lifted os started H enc)

theorem small_proved : Rows.LawS3966BSmallNamesSaid := small_over
end Go.Proofs.Ybulkcdco
