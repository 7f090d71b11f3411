import Derived.Test.YbulkcdcoRaw
import Derived.Test.YbulkcdcoRows
import Derived.ProofKit
import Derived.SizedLaws
import Derived.OpenShut
import Derived.ShutString
import Derived.ChangeOld
import Derived.Deep.Slices
import Derived.Below
namespace Go.Proofs.Ybulkcdco
open Go.ChangeShapes Go.WideShapes Go.ChangeAt Go.RowKit Go.Deep

theorem Yba.ownB : ownKnob Yba.prog.godebug = none := by kernel_rfl
theorem add_pos' (q : Addr) (j : Nat) : q.add (j + 1) = ⟨q.block, q.off + (j + 1), none⟩ := by simp [Addr.add]
theorem list_of {n : Nat} {P : Nat → (Int × ByteArray × ByteArray) → Prop} (h : ∀ i, i < n → ∃ p, P i p) : ∃ R : List (Int × ByteArray × ByteArray), R.length = n ∧ ∀ i, i < n → P i (R.getD i r0) := by
  induction n with
  | zero => exact ⟨[], rfl, fun i hi => by omega⟩
  | succ n ih =>
    obtain ⟨R, hl, hR⟩ := ih (fun i hi => h i (by omega))
    obtain ⟨p, hp⟩ := h n (by omega)
    refine ⟨R ++ [p], by simp [hl], fun i hi => ?_⟩
    by_cases hin : i < n
    · have := hR i hin
      rwa [List.getD_eq_getElem?_getD, List.getElem?_append_left (by omega), ← List.getD_eq_getElem?_getD]
    · obtain rfl : i = n := by omega
      rw [List.getD_eq_getElem?_getD, List.getElem?_append_right (by omega), hl]
      simpa using hp

/-- The roles that came in. -/
theorem open_roles {H : Type} {enc : TypeId × Value → H} {w : World} {base : Nat} {spare : Nat → Bool} {held : Bool} {fuel : Nat} {a : Option Addr} {len cap : Nat} {x : DataW H × List MemPlace}
    (h : DataW.trod enc Yba.prog w base spare held fuel 48 [.slice a len cap] = some x) :
    ∃ R : List (Int × ByteArray × ByteArray), R.length = len ∧ (∀ p ∈ R, (Lit.int .i64 p.1).wf = true ∧ p.2.1.size ≤ maxLen ∧ p.2.2.size ≤ maxLen) ∧ RolesAt w a R := by
  have key : ∀ i, i < len → ∃ p : Int × ByteArray × ByteArray, ((Lit.int .i64 p.1).wf = true ∧ p.2.1.size ≤ maxLen ∧ p.2.2.size ≤ maxLen) ∧ ∃ a0, a = some a0 ∧ w.cell? (a0.add (i * 3)) = some (.int .i64 p.1) ∧ w.cell? ⟨(a0.add (i * 3)).block, (a0.add (i * 3)).off + 1, none⟩ = some (.string p.2.1) ∧ w.cell? ⟨(a0.add (i * 3)).block, (a0.add (i * 3)).off + 2, none⟩ = some (.string p.2.2) := by
    intro i hi
    rcases open_slice Yba.underlying48 h with ⟨hcs, _⟩ | ⟨a0, len', cap', m, n, D, Pl, hcs, _, hl, hm, hmm, _, hx⟩
    · simp at hcs; omega
    · simp only [List.cons.injEq, Value.slice.injEq, and_true] at hcs
      obtain ⟨rfl, rfl, rfl⟩ := hcs
      obtain ⟨cs', hc', ht'⟩ := hx i (by rw [hmm]; split <;> omega)
      rw [sz53] at hc'
      obtain ⟨_, hlen, hcell⟩ := World.cells?_some hc'
      obtain ⟨q, hq⟩ : ∃ q, a0.add (i * 3) = q := ⟨_, rfl⟩
      rw [hq] at hcell
      obtain ⟨xs, n', _, _, _, hxl, hf⟩ := DataW.trod_struct Yba.underlying53 ht'
      match cs', hlen with
      | [c0, c1, c2], _ =>
        match xs, hxl with
        | [y0, y1, y2], _ =>
          have g0 : DataW.trod enc Yba.prog w base spare held n' 3 [c0] = some y0 := by have := hf 0 _ rfl; simpa [sz3'] using this
          have g1 : DataW.trod enc Yba.prog w base spare held n' 9 [c1] = some y1 := by have := hf 1 _ rfl; simpa [sz9] using this
          have g2 : DataW.trod enc Yba.prog w base spare held n' 9 [c2] = some y2 := by have := hf 2 _ rfl; simpa [sz9] using this
          obtain ⟨z0, e0, _, w0⟩ := DataW.trod_int Yba.underlying3 g0
          obtain ⟨z1, e1, _, w1⟩ := DataW.trod_string Yba.underlying9 g1
          obtain ⟨z2, e2, _, w2⟩ := DataW.trod_string Yba.underlying9 g2
          simp at e0 e1 e2
          subst e0 e1 e2
          have r0 := hcell 0 (by omega)
          have r1 := hcell 1 (by omega)
          have r2 := hcell 2 (by omega)
          rw [add_pos' q 0] at r1
          rw [add_pos' q 1] at r2
          exact ⟨(z0, z1, z2), ⟨w0, w1, w2⟩, a0, rfl, by rw [hq]; simpa [Addr.add] using r0, by rw [hq]; simpa using r1, by rw [hq]; simpa using r2⟩
  obtain ⟨R, hl, hR⟩ := list_of key
  refine ⟨R, hl, fun p hp => ?_, fun i hi => (hR i (by omega)).2⟩
  obtain ⟨i, hi, rfl⟩ := List.getElem_of_mem hp
  have := (hR i (by omega)).1
  simpa [hi] using this

theorem raw_big (w : World) (a : Option Addr) (len cap : Nat) (h : 1024 < len) : Calls Yba.prog 5 #[.slice a len cap] w fun e w' => e = .returned (.bool true) ∧ Keeps (fun _ => False) w w' := by
  have b1 : decide ((1024 : Int) < (len : Int)) = true := by simp; omega
  go_enter Yba.func5, Yba.ntmps5
  go_wp2
  go_ret
  exact ⟨rfl, Keeps.refl _ _⟩

theorem raw_walk {a : Option Addr} {len cap : Nat} {W : World} {R : List (Int × ByteArray × ByteArray)} (hR : R.length = len) (hok : ∀ p ∈ R, (Lit.int .i64 p.1).wf = true ∧ p.2.1.size ≤ maxLen ∧ p.2.2.size ≤ maxLen) (hz : RolesAt W a R) :
    Calls Yba.prog 5 #[.slice a len cap] W fun e w' => e = .returned (.bool true) ∧ Below W.heap.size W w' := by
  by_cases h : 1024 < len
  · exact (raw_big W a len cap h).mono fun e w' h => ⟨h.1, h.2.below (Nat.le_refl _) (fun _ h => h.elim)⟩
  · exact (raw_any W a len cap R hR (by omega) hok hz).mono fun e w' h => ⟨h.1, h.2.below (Nat.le_refl _) (fun _ h => h.elim)⟩

set_option maxRecDepth 100000 in
theorem raw_lifted (os : Os) (started : os.Started) (H : Type) (enc : TypeId × Value → H) :
    ReturnsInHanded {} Yba.checked os 5 .any (Rows.lawS3966BRawSpec.pre6 enc Yba.prog Yba.f5 Rows.lawS3966BRawRow.domain false) (Rows.lawS3966BRawSpec.post enc Yba.prog Yba.f5 false true false false) := by
  refine returnsInHanded_of_change (C := Yba.checked) Yba.ownB started (by kernel_rfl) Yba.func5
    (ChangeSpec.witness6 (enc := enc) (C := Yba.checked) false ⟨#[], #[.slice none 0 0], []⟩ 8 (by kernel_rfl) (by kernel_rfl) (by kernel_rfl) (by kernel_rfl)) ?_
  intro W base args ds gs before hval0 hW hcnd _
  have hval : ∀ (j : Nat) t v, Yba.f5.params[j]? = some t → args[j]? = some v → Value.okWide Yba.prog W .any base t v := hval0
  have hW' := hW
  obtain ⟨p, q, hA0, hV, rfl, hfz, hnd⟩ := hW
  have hA : DataW.TrodAll enc Yba.prog W 0 (fun _ => true) true Yba.f5.params.toList args.toList ds p := hA0
  rw [Yba.params5] at hA hval
  obtain ⟨v0, vs0, d0, ds0, p0, q0, hargs, rfl, rfl, h0, r0⟩ := trodAll_cons hA
  obtain ⟨rfl, rfl, rfl⟩ := trodAll_nil r0
  obtain rfl : args = #[v0] := by cases args; simp_all
  obtain ⟨rfl, rfl⟩ := trodVars_none hV
  obtain ⟨a0, len0, cap0, rfl⟩ := okWide_slice Yba.underlying48 (hval 0 48 v0 rfl rfl)
  have k0 := h0
  have lt0 : ∀ x ∈ p0, x.block < W.heap.size := by obtain ⟨m, hm⟩ := k0; exact DataW.trod_lt m _ _ _ hm
  clear hA0 hval0
  obtain ⟨fuel, hf⟩ := h0
  obtain ⟨R, hR, hok, hz⟩ := open_roles hf
  refine (raw_walk (cap := cap0) hR hok hz).mono fun e W' ⟨he, bel⟩ => ?_
  subst he
  exact ⟨_, rfl, _, _, _, [], _, [], hW', trodAll_mk1 (shut_bool Yba.underlying4 _), (trodAll_cons_mk (Below.trod Yba.laidOut (by kernel_rfl) (of_decide_eq_true (by kernel_rfl)) k0 bel lt0) trodAll_mk0), rfl, bel.frame _, fun h => by cases h⟩

theorem raw_over : Rows.lawS3966BRawRow.holds Yba.pinned (OpenSpec.ofChange Rows.lawS3966BRawSpec) :=
  OpenClaim.holds_of_wide 5 Yba.f5 rfl rfl rfl rfl rfl rfl rfl ⟨rfl, rfl, rfl, rfl, rfl⟩ rfl rfl rfl rfl rfl (by kernel_rfl) Yba.func5 (by kernel_rfl)
    (of_decide_eq_true (by kernel_rfl)) (by unfold Func.isWrapper; first | (rw [if_pos (by decide +kernel)]; kernel_rfl) | (rw [if_neg (by decide +kernel)]; exact ⟨rfl, rfl⟩))
    (fun os started H enc _ => raw_lifted os started H enc)

theorem raw_proved : Rows.LawS3966BRawSaid := raw_over
end Go.Proofs.Ybulkcdco
