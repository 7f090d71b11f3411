import Derived.Test.YbulkcdeeLaw
import Derived.ProofKit
import Derived.SizedLaws
import Derived.OpenShut
import Derived.ShutString
import Derived.ChangeOld
import Derived.SliceStrings
namespace Go.Proofs.Ybulkcdee
open Go.ChangeShapes Go.WideShapes Go.ChangeAt Go.RowKit
open Go.ChangeMaps (open_string shut_string)

theorem Yba.own : ownKnob Yba.prog.godebug = none := by kernel_rfl
theorem Yba.laidOut : laidOutB Yba.prog = true := by kernel_rfl
theorem Yba.cells9 : Yba.prog.cellsOf 9 = 1 := by kernel_rfl
theorem Yba.cells25 : Yba.prog.cellsOf 25 = 1 := by kernel_rfl

theorem weights_strs {H : Type} {P : Program} {e : TypeId} (l : List ByteArray) (s : ByteArray) (h : s ∈ l) : s.size ∈ DataW.weightsAll P e (strs (H := H) l) := by
  induction l with
  | nil => cases h
  | cons a l ih =>
    simp only [strs, List.map_cons, DataW.weightsAll, DataW.weights, List.mem_append]
    rcases List.mem_cons.1 h with h | h
    · left; subst h; simp
    · right; exact ih h

theorem sized_strs {H : Type} {P : Program} {ts : List TypeId} {ds : List (DataW H)} (h : (DataW.weightsEach P ts ds).all (· ≤ reachBytes) = true) {j : Nat} {t e : TypeId} {xs ys : List ByteArray} (ht : ts[j]? = some t) (hd : ds[j]? = some (.slice (strs xs) (strs ys))) (hu : P.underlying t = some (.slice e)) :
    ∀ s, s ∈ xs ++ ys → s.size ≤ reachBytes := by
  intro s hs
  have := List.all_eq_true.1 h s.size (DataW.weights_mem_each ht hd s.size (by
    simp only [DataW.weights, hu, List.mem_cons, List.mem_append]
    right
    rcases List.mem_append.1 hs with h | h
    · exact .inl (weights_strs xs s h)
    · exact .inr (weights_strs ys s h)))
  simpa using this

set_option maxHeartbeats 1600000 in
set_option maxRecDepth 100000 in
theorem lifted (os : Os) (started : os.Started) (H : Type) (enc : TypeId × Value → H) :
    ReturnsInHanded {} Yba.checked os 3 .any (Rows.lawS3969CExactSpec.pre6 enc Yba.prog Yba.f3 Rows.lawS3969CExactRow.domain false) (Rows.lawS3969CExactSpec.post enc Yba.prog Yba.f3 false true false false) := by
  refine returnsInHanded_of_change_sized (C := Yba.checked) Yba.own started (by kernel_rfl) Yba.func3
    (ChangeSpec.witness6 (enc := enc) (C := Yba.checked) false ⟨#[], #[.slice none 0 0, .slice none 0 0, .int .u8 0, .int .u8 0], []⟩ 8 (by kernel_rfl) (by kernel_rfl) (by kernel_rfl) (by kernel_rfl)) ?_
  intro W base args ds gs before hval0 hW _ hsz0 _
  have hsz : (DataW.weightsEach Yba.prog (Yba.f3.params.toList ++ Rows.lawS3969CExactSpec.plain.varTypes Yba.prog) (ds ++ gs)).all (· ≤ reachBytes) = true := hsz0
  clear hsz0
  have hval : ∀ (j : Nat) t v, Yba.f3.params[j]? = some t → args[j]? = some v → Value.okWide Yba.prog W .any base t v := hval0
  have hW' := hW
  obtain ⟨p, q, hA0, hV, rfl, _, _⟩ := hW
  have hA : DataW.TrodAll enc Yba.prog W 0 (fun _ => true) true Yba.f3.params.toList args.toList ds p := hA0
  rw [Yba.params3] at hA hval hsz
  obtain ⟨v0, v1, v2, v3, d0, d1, d2, d3, p0, p1, p2, p3, rfl, rfl, rfl, h0, h1, h2, h3⟩ := trodAll_four hA
  obtain ⟨rfl, rfl⟩ := trodVars_none hV
  obtain ⟨a0, len0, cap0, rfl⟩ := okWide_slice Yba.underlying22 (hval 0 22 v0 rfl rfl)
  obtain ⟨a1, len1, cap1, rfl⟩ := okWide_slice Yba.underlying23 (hval 1 23 v1 rfl rfl)
  obtain ⟨mk, rfl, rfl, rfl, wm⟩ := open_int Yba.underlying5 (hval 2 5 v2 rfl rfl) h2
  obtain ⟨sb, rfl, rfl, rfl, wb⟩ := open_int Yba.underlying5 (hval 3 5 v3 rfl rfl) h3
  have bb := bounds_u8 wb
  have k0 := h0
  have k1 := h1
  have lt0 : ∀ x ∈ p0, x.block < W.heap.size := by obtain ⟨m, hm⟩ := k0; exact DataW.trod_lt m _ _ _ hm
  have lt1 : ∀ x ∈ p1, x.block < W.heap.size := by obtain ⟨m, hm⟩ := k1; exact DataW.trod_lt m _ _ _ hm
  obtain ⟨ss, hS⟩ : ∃ ss, Strs W a0 len0 ss := by
    obtain ⟨fuel, hf⟩ := h0
    rcases open_strings Yba.underlying22 Yba.underlying9 Yba.cells9 hf with ⟨hcs, _⟩ | ⟨x, l, c, ss, hcs, _, hl, hm, hz, hx, hcell, hws⟩
    · simp [Value.cells] at hcs
      obtain ⟨rfl, rfl, rfl⟩ := hcs
      exact ⟨[], fun i hi => by omega, fun i => by simp⟩
    · simp [Value.cells] at hcs
      obtain ⟨rfl, rfl, rfl⟩ := hcs
      simp only [Prod.mk.injEq] at hx
      obtain ⟨rfl, rfl⟩ := hx
      simp only [if_true] at hz
      have hsized := sized_strs hsz (j := 0) (t := 22) (e := 9) rfl rfl Yba.underlying22
      rw [List.take_append_drop] at hsized
      refine ⟨ss, fun i hi => ?_, fun i => ?_⟩
      · obtain ⟨b, off, spot⟩ := x
        have hc := hcell i (by omega)
        have hspot : spot = none := by simpa [Addr.add] using World.cell?_spot (hcell 0 (by omega))
        subst hspot
        exact ⟨b, off, rfl, by rw [← add_plain]; exact hc, lt0 (.cell b (off + i)) (MemPlace.mem_row.2 ⟨i, by omega, rfl⟩)⟩
      · by_cases hi : i < ss.length
        · have := hsized (ss.getD i ByteArray.empty) (by simp [hi])
          simpa [reachBytes] using this
        · rw [List.getD_eq_getElem?_getD, List.getElem?_eq_none (by omega)]; simp
  obtain ⟨cs, hC⟩ : ∃ cs, Ctrs W a1 len1 cs := by
    obtain ⟨fuel, hf⟩ := h1
    rcases open_ints Yba.underlying23 Yba.underlying25 Yba.cells25 hf with ⟨hcs, _⟩ | ⟨x, l, c, zs, hcs, _, hl, hm, hz, hx, hcell, hws⟩
    · simp [Value.cells] at hcs
      obtain ⟨rfl, rfl, rfl⟩ := hcs
      exact ⟨[], fun i hi => by omega, fun i => by unfold Hid; simp⟩
    · simp [Value.cells] at hcs
      obtain ⟨rfl, rfl, rfl⟩ := hcs
      simp only [Prod.mk.injEq] at hx
      obtain ⟨_, rfl⟩ := hx
      simp only [if_true] at hz
      have hb : ∀ z ∈ zs, 0 ≤ z ∧ z < 18446744073709551616 := fun z h => by have := bounds_u64 (hws z h); omega
      have hget : ∀ i, i < zs.length → ((zs.map Int.toNat).getD i 0 : Int) = zs.getD i 0 := fun i hi => by
        have := hb (zs[i]) (by simp)
        simp [hi]; omega
      refine ⟨zs.map Int.toNat, fun i hi => ?_, fun i => ?_⟩
      · obtain ⟨b, off, spot⟩ := x
        have hc := hcell i (by omega)
        have hspot : spot = none := by simpa [Addr.add] using World.cell?_spot (hcell 0 (by omega))
        subst hspot
        refine ⟨b, off, rfl, ?_, lt1 (.cell b (off + i)) (MemPlace.mem_row.2 ⟨i, by omega, rfl⟩)⟩
        rw [← add_plain, hc, hget i (by omega)]
      · unfold Hid
        by_cases hi : i < zs.length
        · have := hb (zs[i]) (by simp)
          have := hget i hi
          simp only [List.getD_eq_getElem?_getD, List.getElem?_eq_getElem hi, Option.getD_some] at this ⊢
          omega
        · rw [List.getD_eq_getElem?_getD, List.getElem?_eq_none (by simpa using hi)]; simp
  have hl1 : len1 ≤ 9223372036854775807 := by
    obtain ⟨fuel, hf⟩ := h1
    rcases open_ints Yba.underlying23 Yba.underlying25 Yba.cells25 hf with ⟨hcs, _⟩ | ⟨x, l, c, zs, hcs, _, hl, hm, hz, hx, hcell, hws⟩
    · simp [Value.cells] at hcs; omega
    · simp [Value.cells] at hcs; unfold maxLen at hm; omega
  clear hA0 hval0
  have hcall : Calls Yba.prog 3 #[.slice a0 len0 cap0, .slice a1 len1 cap1, .int .u8 mk, .int .u8 sb] W fun e w' => e = .returned (.bool true) ∧ Below W.heap.size W w' := by
    by_cases hbig : 1024 < len0
    · exact law_big _ _ _ _ _ _ _ _ _ hbig
    · by_cases hlt : len1 < len0
      · exact law_any a0 a1 len0 cap0 len1 cap1 len1 ss cs mk sb W hS hC (by omega) hl1 bb.1 bb.2 (.inl ⟨hlt, rfl⟩)
      · exact law_any a0 a1 len0 cap0 len1 cap1 len0 ss cs mk sb W hS hC (by omega) hl1 bb.1 bb.2 (.inr ⟨by omega, rfl⟩)
  refine hcall.mono fun e W' ⟨he, bel⟩ => ?_
  subst he
  exact ⟨_, rfl, _, _, _, [], _, [], hW', trodAll_mk1 (shut_bool Yba.underlying4 _), (trodAll_mk4 (Below.trod Yba.laidOut (by kernel_rfl) (of_decide_eq_true (by kernel_rfl)) k0 bel lt0) (Below.trod Yba.laidOut (by kernel_rfl) (of_decide_eq_true (by kernel_rfl)) k1 bel lt1) (shut_int Yba.underlying5 wm) (shut_int Yba.underlying5 wb)), rfl, bel.frame _, fun h => by cases h⟩

theorem exact_over : Rows.lawS3969CExactRow.holds Yba.pinned (OpenSpec.ofChange Rows.lawS3969CExactSpec) :=
  OpenClaim.holds_of_wide 3 Yba.f3 rfl rfl rfl rfl rfl rfl rfl ⟨rfl, rfl, rfl, rfl, rfl⟩ rfl rfl rfl rfl rfl (by kernel_rfl) Yba.func3 (by kernel_rfl)
    (of_decide_eq_true (by kernel_rfl)) (by unfold Func.isWrapper; first | (rw [if_pos (by decide +kernel)]; kernel_rfl) | (rw [if_neg (by decide +kernel)]; exact ⟨rfl, rfl⟩))
    (fun os started H enc _ => lifted os started H enc)

theorem exact_proved : Rows.LawS3969CExactSaid := exact_over
end Go.Proofs.Ybulkcdee
