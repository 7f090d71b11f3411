import Derived.Test.YbulkcdkcMain
import Derived.Test.YbulkcdkcOpn
import Derived.Test.YbulkcdkcRows
namespace Go.Proofs.Ybulkcdkc
open Go.ChangeShapes Go.WideShapes Go.ChangeAt Go.RowKit Go.Deep

set_option maxHeartbeats 1600000 in
set_option maxRecDepth 1000000 in
theorem law_big1 (W : World) (own vmask mp d0 ll lc pl pc sl sc : Nat) (la pa sa : Option Addr) (h : 300 < ll) :
    Calls Yba.prog 3 #[.int .u8 own, .int .u8 vmask, .slice la ll lc, .int .u64 mp, .slice pa pl pc, .slice sa sl sc, .int .u64 d0] W fun r w' => r = .returned (.bool true) ∧ Keeps (fun _ => False) W w' := by
  have g1 : decide ((300 : Int) < (ll : Int)) = true := by simp; omega
  have k := (Keeps.refl (fun _ => False) W).alloc (.cells #[.slice pa pl pc] 24)
  go_enter Yba.func3, Yba.ntmps3
  go_wp2
  go_ret
  exact ⟨rfl, k⟩
set_option maxHeartbeats 1600000 in
set_option maxRecDepth 1000000 in
theorem law_big2 (W : World) (own vmask mp d0 ll lc pl pc sl sc : Nat) (la pa sa : Option Addr) (h1 : ll ≤ 300) (h : 300 < sl) :
    Calls Yba.prog 3 #[.int .u8 own, .int .u8 vmask, .slice la ll lc, .int .u64 mp, .slice pa pl pc, .slice sa sl sc, .int .u64 d0] W fun r w' => r = .returned (.bool true) ∧ Keeps (fun _ => False) W w' := by
  have g1 : decide ((300 : Int) < (ll : Int)) = false := by simp; omega
  have g2 : decide ((300 : Int) < (sl : Int)) = true := by simp; omega
  have k := (Keeps.refl (fun _ => False) W).alloc (.cells #[.slice pa pl pc] 24)
  go_enter Yba.func3, Yba.ntmps3
  go_wp2
  go_ret
  exact ⟨rfl, k⟩

theorem Yba.laidOut : laidOutB Yba.prog = true := by kernel_rfl

theorem law_walk (W : World) (own vmask mp d0 ll lc pl pc sl sc : Nat) (la pa sa : Option Addr) (hown : own < 256) (ms : List Nat) (hmk : MkAt W la ms) (hml : ms.length = ll) (vals : List Nat) (hpv : PrAt W pa vals) (hpl' : vals.length = pl) (sts : List (Nat × Nat × Nat × Nat)) (hst : StAt W sa sts) (hstl : sts.length = sl) :
    Calls Yba.prog 3 #[.int .u8 own, .int .u8 vmask, .slice la ll lc, .int .u64 mp, .slice pa pl pc, .slice sa sl sc, .int .u64 d0] W fun r w' => r = .returned (.bool true) ∧ Below W.heap.size W w' := by
  by_cases h1 : 300 < ll
  · exact (law_big1 W own vmask mp d0 ll lc pl pc sl sc la pa sa h1).mono fun e w' h => ⟨h.1, h.2.below (Nat.le_refl _) (fun _ h => h.elim)⟩
  · by_cases h2 : 300 < sl
    · exact (law_big2 W own vmask mp d0 ll lc pl pc sl sc la pa sa (by omega) h2).mono fun e w' h => ⟨h.1, h.2.below (Nat.le_refl _) (fun _ h => h.elim)⟩
    · exact (law_any W own vmask mp d0 ll lc pl pc sl sc la pa sa hown (by omega) (by omega) ms hmk hml vals hpv hpl' sts hst hstl).mono fun e w' h => ⟨h.1, h.2.below (Nat.le_refl _) (fun _ h => h.elim)⟩

set_option maxRecDepth 100000 in
theorem law_lifted (os : Os) (started : os.Started) (H : Type) (enc : TypeId × Value → H) :
    ReturnsInHanded {} Yba.checked os 3 .any (Rows.lawS3980BInstallSpec.pre6 enc Yba.prog Yba.f3 Rows.lawS3980BInstallRow.domain false) (Rows.lawS3980BInstallSpec.post enc Yba.prog Yba.f3 false true false false) := by
  refine returnsInHanded_of_change (C := Yba.checked) Yba.own started (by kernel_rfl) Yba.func3
    (ChangeSpec.witness6 (enc := enc) (C := Yba.checked) false ⟨#[], #[.int .u8 0, .int .u8 0, .slice none 0 0, .int .u64 0, .slice none 0 0, .slice none 0 0, .int .u64 0], []⟩ 8 (by kernel_rfl) (by kernel_rfl) (by kernel_rfl) (by kernel_rfl)) ?_
  intro W base args ds gs before hval0 hW hcnd _
  have hval : ∀ (j : Nat) t v, Yba.f3.params[j]? = some t → args[j]? = some v → Value.okWide Yba.prog W .any base t v := hval0
  have hW' := hW
  obtain ⟨p, q, hA0, hV, rfl, hfz, hnd⟩ := hW
  have hA : DataW.TrodAll enc Yba.prog W 0 (fun _ => true) true Yba.f3.params.toList args.toList ds p := hA0
  rw [Yba.params3] at hA hval
  obtain ⟨v0, vs0, d0, ds0, p0, q0, hargs, rfl, rfl, h0, r0⟩ := trodAll_cons hA
  obtain ⟨v1, vs1, d1, ds1, p1, q1, rfl, rfl, rfl, h1, r1⟩ := trodAll_cons r0
  obtain ⟨v2, vs2, d2, ds2, p2, q2, rfl, rfl, rfl, h2, r2⟩ := trodAll_cons r1
  obtain ⟨v3, vs3, d3, ds3, p3, q3, rfl, rfl, rfl, h3, r3⟩ := trodAll_cons r2
  obtain ⟨v4, vs4, d4, ds4, p4, q4, rfl, rfl, rfl, h4, r4⟩ := trodAll_cons r3
  obtain ⟨v5, vs5, d5, ds5, p5, q5, rfl, rfl, rfl, h5, r5⟩ := trodAll_cons r4
  obtain ⟨v6, vs6, d6, ds6, p6, q6, rfl, rfl, rfl, h6, r6⟩ := trodAll_cons r5
  obtain ⟨rfl, rfl, rfl⟩ := trodAll_nil r6
  obtain rfl : args = #[v0, v1, v2, v3, v4, v5, v6] := by cases args; simp_all
  obtain ⟨rfl, rfl⟩ := trodVars_none hV
  have k0 := h0
  have k1 := h1
  have k2 := h2
  have k3 := h3
  have k4 := h4
  have k5 := h5
  have k6 := h6
  obtain ⟨f0, e0⟩ := h0
  obtain ⟨f1, e1⟩ := h1
  obtain ⟨f2, e2⟩ := h2
  obtain ⟨f3, e3⟩ := h3
  obtain ⟨f4, e4⟩ := h4
  obtain ⟨f5, e5⟩ := h5
  obtain ⟨f6, e6⟩ := h6
  have lt0 : ∀ x ∈ p0, x.block < W.heap.size := DataW.trod_lt f0 _ _ _ e0
  have lt1 : ∀ x ∈ p1, x.block < W.heap.size := DataW.trod_lt f1 _ _ _ e1
  have lt2 : ∀ x ∈ p2, x.block < W.heap.size := DataW.trod_lt f2 _ _ _ e2
  have lt3 : ∀ x ∈ p3, x.block < W.heap.size := DataW.trod_lt f3 _ _ _ e3
  have lt4 : ∀ x ∈ p4, x.block < W.heap.size := DataW.trod_lt f4 _ _ _ e4
  have lt5 : ∀ x ∈ p5, x.block < W.heap.size := DataW.trod_lt f5 _ _ _ e5
  have lt6 : ∀ x ∈ p6, x.block < W.heap.size := DataW.trod_lt f6 _ _ _ e6
  obtain ⟨a2, l2, c2, rfl⟩ := okWide_slice Yba.underlying22 (hval 2 22 v2 rfl rfl)
  obtain ⟨a4, l4, c4, rfl⟩ := okWide_slice Yba.underlying24 (hval 4 24 v4 rfl rfl)
  obtain ⟨a5, l5, c5, rfl⟩ := okWide_slice Yba.underlying25 (hval 5 25 v5 rfl rfl)
  obtain ⟨y0, rfl⟩ := okWide_int Yba.underlying5 (hval 0 5 v0 rfl rfl)
  obtain ⟨y1, rfl⟩ := okWide_int Yba.underlying5 (hval 1 5 v1 rfl rfl)
  obtain ⟨y3, rfl⟩ := okWide_int Yba.underlying23 (hval 3 23 v3 rfl rfl)
  obtain ⟨y6, rfl⟩ := okWide_int Yba.underlying23 (hval 6 23 v6 rfl rfl)
  obtain ⟨z0, g0, _, w0⟩ := DataW.trod_int Yba.underlying5 e0
  obtain ⟨z1, g1, _, w1⟩ := DataW.trod_int Yba.underlying5 e1
  obtain ⟨z3, g3, _, w3⟩ := DataW.trod_int Yba.underlying23 e3
  obtain ⟨z6, g6, _, w6⟩ := DataW.trod_int Yba.underlying23 e6
  simp [Value.cells] at g0 g1 g3 g6
  subst g0 g1 g3 g6
  obtain ⟨n0, rfl, b0⟩ := nat_u8 w0
  obtain ⟨n1, rfl, _⟩ := nat_u8 w1
  obtain ⟨n3, rfl, _⟩ := nat_u64 w3
  obtain ⟨n6, rfl, _⟩ := nat_u64 w6
  obtain ⟨ms, hml, hmk⟩ := open_masks e2
  obtain ⟨vals, hvl, hpv⟩ := open_procs e4
  obtain ⟨sts, hsl, hst⟩ := open_steps e5
  clear hA0 hval0
  refine (law_walk W n0 n1 n3 n6 l2 c2 l4 c4 l5 c5 a2 a4 a5 b0 ms hmk hml vals hpv hvl sts hst hsl).mono fun e W' ⟨he, bel⟩ => ?_
  subst he
  exact ⟨_, rfl, _, _, _, [], _, [], hW', trodAll_mk1 (shut_bool Yba.underlying4 _),
    (trodAll_cons_mk (Below.trod Yba.laidOut (by kernel_rfl) (of_decide_eq_true (by kernel_rfl)) k0 bel lt0)
    (trodAll_cons_mk (Below.trod Yba.laidOut (by kernel_rfl) (of_decide_eq_true (by kernel_rfl)) k1 bel lt1)
    (trodAll_cons_mk (Below.trod Yba.laidOut (by kernel_rfl) (of_decide_eq_true (by kernel_rfl)) k2 bel lt2)
    (trodAll_cons_mk (Below.trod Yba.laidOut (by kernel_rfl) (of_decide_eq_true (by kernel_rfl)) k3 bel lt3)
    (trodAll_cons_mk (Below.trod Yba.laidOut (by kernel_rfl) (of_decide_eq_true (by kernel_rfl)) k4 bel lt4)
    (trodAll_cons_mk (Below.trod Yba.laidOut (by kernel_rfl) (of_decide_eq_true (by kernel_rfl)) k5 bel lt5)
    (trodAll_cons_mk (Below.trod Yba.laidOut (by kernel_rfl) (of_decide_eq_true (by kernel_rfl)) k6 bel lt6) trodAll_mk0))))))), rfl, bel.frame _, fun h => by cases h⟩

theorem law_over : Rows.lawS3980BInstallRow.holds Yba.pinned (OpenSpec.ofChange Rows.lawS3980BInstallSpec) :=
  OpenClaim.holds_of_wide 3 Yba.f3 rfl rfl rfl rfl rfl rfl rfl ⟨rfl, rfl, rfl, rfl, rfl⟩ rfl rfl rfl rfl rfl (by kernel_rfl) Yba.func3 (by kernel_rfl)
    (of_decide_eq_true (by kernel_rfl)) (by unfold Func.isWrapper; first | (rw [if_pos (by decide +kernel)]; kernel_rfl) | (rw [if_neg (by decide +kernel)]; exact ⟨rfl, rfl⟩))
    (fun os started H enc _ => law_lifted os started H enc)

theorem install_proved : Rows.LawS3980BInstallSaid := law_over
end Go.Proofs.Ybulkcdkc
