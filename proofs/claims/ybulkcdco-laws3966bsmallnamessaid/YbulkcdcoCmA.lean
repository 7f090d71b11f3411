import Derived.Test.YbulkcdcoCmO
namespace Go.Proofs.Ybulkcdco
open Go.RowKit
section
variable {w0 w3 : World} {bv bi bl bs bo bp gi gl go gc ga gp cp N k vis f v nv gk n1 : Nat} {vs : List Value} {A : List (List Nat)} {rs : List Res} {ix lw cm st pn p0 ws : List Nat} {os : List Bool} {ne : Nat → Nat} {vst : Value} {Q : Exit → Act → World → Prop}
set_option maxHeartbeats 6400000 in
set_option maxRecDepth 1000000 in
theorem edge_wp (S1 : Sep w0 w3 (TarL bv bi bl bs bo bp gi gl go N vis ix lw os vst (.slice (some ⟨gp, 0, none⟩) pn.length cp) st pn ne (Res.row 3 1 (.slice (some ⟨gc, 0, none⟩) N N) N (nats cm) :: Res.adj ga N vs A :: rs))) (hN : N ≤ 4096) (hA : ∀ x, (A.getD x []).length ≤ 10000 ∧ ∀ y ∈ A.getD x [], y < N) (hT : TS A N ix lw cm os ne st pn vis f) (hvis : ∀ r, r < k + 1 → ix.getD r 0 ≠ 0) (hpn : pn = p0 ++ [v]) (hnp : v ∉ p0) (hvst : v ∈ st) (hvN : v < N) (hn1 : pn.length = n1) (hws : A.getD v [] = ws) (hnv : ne v = nv) (hn : gk = mu (adjF A) N (fn ix) ne pn) (hed : nv < ws.length) (c1 c2 c5 c10 c12 c15 c16 c17 c18 c19 c20 c21 c22 c23 c24 c25 c26 c27 c28 c29 c30 c31 c32 c33 c34 c35 c36 c37 c38 c39 c40 c41 c42 c43 c44 c45 c46 c47 c48 c49 c50 c51 c52 c53 c54 c55 c56 c57 c58 c59 c60 c61 c62 c63 c64 c65 c66 c67 c68 c69 c70 c71 c72 c73 c74 c75 c76 c77 c78 c79 c80 c81 c82 c83 c84 c85 c86 c87 c88 c89 c90 c91 c92 c93 c94 c95 c96 c97 c98 c99 c100 c101 c102 c103 c104 c105 c106 c107 c108 c109 c110 c111 c112 c113 c114 c115 c116 c117 c118 c119 c120 c121 c122 c123 c124 c125 c126 c127 c128 c129 c130 c131 c132 c133 c134 c135 c136 c137 c138 c139 c140 c141 c142 c143 c144 c145 c146 c147 c148 c149 c150 c151 c152 c153 c154 c155 c156 c157 c158 c159 c160 c161 c162 c163 c164 c165 c166 c167 : Value)
    (hend : ∀ (u15 u66 u67 u68 u69 u70 u71 u72 u73 u74 u75 u76 u77 u78 u79 u80 u81 u82 u83 u84 u85 u86 u87 u88 u89 u90 u91 u92 u93 u94 u95 u96 u97 u98 u99 u100 u101 u102 u103 u104 u105 u106 : Value) (wx : World), Rnd w0 bv bi bl bs bo bp gi gl go gc ga N k vs A rs gk f wx → Q (.exit 3) ⟨#[.slice (some ⟨ga, 0, none⟩) N N, c1, c2, .pointer (some ⟨bi, 0, none⟩), .pointer (some ⟨bl, 0, none⟩), c5, .pointer (some ⟨bo, 0, none⟩), .pointer (some ⟨bs, 0, none⟩), .pointer (some ⟨bp, 0, none⟩), .pointer (some ⟨bv, 0, none⟩), c10, (.func (.func 21) #[] #[.pointer (some ⟨bv, 0, none⟩), .pointer (some ⟨bi, 0, none⟩), .pointer (some ⟨bl, 0, none⟩), .pointer (some ⟨bs, 0, none⟩), .pointer (some ⟨bo, 0, none⟩), .pointer (some ⟨bp, 0, none⟩)]), c12, .pointer (some ⟨gp, p0.length * 2, none⟩), .int .i64 (v : Int), u15, c16, c17, c18, c19, c20, c21, c22, c23, c24, c25, c26, c27, c28, c29, c30, c31, c32, c33, c34, c35, c36, c37, c38, c39, c40, c41, c42, c43, c44, c45, c46, c47, c48, c49, c50, c51, c52, c53, c54, c55, c56, c57, c58, c59, c60, c61, c62, c63, c64, c65, u66, u67, u68, u69, u70, u71, u72, u73, u74, u75, u76, u77, u78, u79, u80, u81, u82, u83, u84, u85, u86, u87, u88, u89, u90, u91, u92, u93, u94, u95, u96, u97, u98, u99, u100, u101, u102, u103, u104, u105, u106, c107, c108, c109, c110, c111, c112, c113, c114, c115, c116, c117, c118, c119, c120, c121, c122, c123, c124, c125, c126, c127, c128, c129, c130, c131, c132, c133, c134, c135, c136, c137, c138, c139, c140, c141, c142, c143, c144, c145, c146, c147, c148, c149, c150, c151, c152, c153, c154, c155, c156, c157, c158, c159, c160, c161, c162, c163, c164, c165, c166, c167], []⟩ wx) :
    Code.wp Yba.prog code18 Q ⟨#[.slice (some ⟨ga, 0, none⟩) N N, c1, c2, .pointer (some ⟨bi, 0, none⟩), .pointer (some ⟨bl, 0, none⟩), c5, .pointer (some ⟨bo, 0, none⟩), .pointer (some ⟨bs, 0, none⟩), .pointer (some ⟨bp, 0, none⟩), .pointer (some ⟨bv, 0, none⟩), c10, (.func (.func 21) #[] #[.pointer (some ⟨bv, 0, none⟩), .pointer (some ⟨bi, 0, none⟩), .pointer (some ⟨bl, 0, none⟩), .pointer (some ⟨bs, 0, none⟩), .pointer (some ⟨bo, 0, none⟩), .pointer (some ⟨bp, 0, none⟩)]), c12, .pointer (some ⟨gp, p0.length * 2, none⟩), .int .i64 (v : Int), c15, c16, c17, c18, c19, c20, c21, c22, c23, c24, c25, c26, c27, c28, c29, c30, c31, c32, c33, c34, c35, c36, c37, c38, c39, c40, c41, c42, c43, c44, c45, c46, c47, c48, c49, c50, c51, c52, c53, c54, c55, c56, c57, c58, c59, c60, c61, c62, c63, c64, c65, c66, c67, c68, c69, c70, c71, c72, c73, c74, c75, c76, c77, c78, c79, c80, c81, c82, c83, c84, c85, c86, c87, c88, c89, c90, c91, c92, c93, c94, c95, c96, c97, c98, c99, c100, c101, c102, c103, c104, c105, c106, c107, c108, c109, c110, c111, c112, c113, c114, c115, c116, c117, c118, c119, c120, c121, c122, c123, c124, c125, c126, c127, c128, c129, c130, c131, c132, c133, c134, c135, c136, c137, c138, c139, c140, c141, c142, c143, c144, c145, c146, c147, c148, c149, c150, c151, c152, c153, c154, c155, c156, c157, c158, c159, c160, c161, c162, c163, c164, c165, c166, c167], []⟩ w3 := by
  conv => arg 2; whnf
  have HPN := Hid.mk' hpn
  have HWS := Hid.mk' hws
  have HNV := Hid.mk' hnv
  have HH := Hid.mk' hn
  have HN1 := Hid.mk' hn1
  have HEND := Hid.mk' hend
  have x5 : (v : Int) < (N : Int) := by omega
  have x6 : (0 : Int) ≤ (v : Int) := by omega
  have hdv := (hA v).1
  rw [hws] at hdv
  have hpl : n1 ≤ N + 1 := by
    have h1 := hT.t.sub.length_le
    have h2 := hT.fc
    have h3 := hT.visN
    omega
  clear hpn hws hnv hn hn1 hend
  obtain ⟨y, hy⟩ : ∃ y, ws[nv]? = some y := ⟨ws[nv], List.getElem?_eq_getElem hed⟩
  have hyN : y < N := (hA v).2 y (by rw [HWS.out]; exact List.mem_of_getElem? hy)
  have HY := Hid.mk' hy
  have S' := S1
  unfold TarL at S'
  obtain ⟨va, hva, hvc, hvf, hvo⟩ := Adj.at_ (show Adj w3 ga N vs A from S'.p13.head) v hvN
  obtain ⟨aw, cw, hvw⟩ := own_sliceB hvo
  subst hvw
  rw [HWS.out] at hvc hvo
  obtain ⟨gw, cw', hgw, -, -, hcw⟩ := own_atB hvo (by omega)
  injection hgw with g1 _ g3
  subst g1
  subst g3
  have d0 : w3.cell? ⟨gw, nv, none⟩ = some (.int .i64 (y : Int)) := by rw [(hcw nv hed).1]; simp [nats, hy]
  have hrp : w3.ownsRow 0 76 2 (.slice (some ⟨gp, 0, none⟩) pn.length cp) pn.length (steps ne pn) := S'.p11.head
  have c2 : w3.cell? ⟨gp, p0.length * 2 + 1, none⟩ = some (.int .i64 (nv : Int)) := by
    have := hrp.cells (g := gp) rfl (p0.length * 2 + 1) (.int .i64 ((ne v : Nat) : Int)) (by rw [HPN.out, steps_top, List.getElem?_append_right (by rw [steps_len]; omega), steps_len, show p0.length * 2 + 1 - p0.length * 2 = 1 by omega]; rfl)
    rw [addr0, HNV.out] at this; exact this
  have f2 : w3.frozen? ⟨gp, p0.length * 2 + 1, none⟩ = false := hrp.frozenAt _
  have v0 : (nv : Int) < (ws.length : Int) := by omega
  have v1 : (0 : Int) ≤ (nv : Int) := by omega
  clear S' hrp hcw hvo hvf hy
  go_upto_region 18 with fail
  go_quiet (fail)
  have S2 := S1.quiet ((Keeps.refl (fun _ => False) w3).drewN nq)
  clear S1 d0 c2 f2 hvc
  generalize w3.drewN nq = w4 at *
  have hnvv : (nv : Int) + 1 = ((nv + 1 : Nat) : Int) := by omega
  have S' := S2
  unfold TarL at S'
  have hrp : w4.ownsRow 0 76 2 (.slice (some ⟨gp, 0, none⟩) pn.length cp) pn.length (steps ne pn) := S'.p11.head
  have c2 : w4.cell? ⟨gp, p0.length * 2 + 1, none⟩ = some (.int .i64 (nv : Int)) := by
    have := hrp.cells (g := gp) rfl (p0.length * 2 + 1) (.int .i64 ((ne v : Nat) : Int)) (by rw [HPN.out, steps_top, List.getElem?_append_right (by rw [steps_len]; omega), steps_len, show p0.length * 2 + 1 - p0.length * 2 = 1 by omega]; rfl)
    rw [addr0, HNV.out] at this; exact this
  have f2 : w4.frozen? ⟨gp, p0.length * 2 + 1, none⟩ = false := hrp.frozenAt _
  have S3 : Sep w0 (w4.setCell ⟨gp, p0.length * 2 + 1, none⟩ (.int .i64 ((nv + 1 : Nat) : Int))) (TarL bv bi bl bs bo bp gi gl go N vis ix lw os vst (.slice (some ⟨gp, 0, none⟩) pn.length cp) st pn (upd ne v (nv + 1)) (Res.row 3 1 (.slice (some ⟨gc, 0, none⟩) N N) N (nats cm) :: Res.adj ga N vs A :: rs)) := by
    have h1 := (S'.p11.store (p0.length * 2 + 1) (.int .i64 ((nv + 1 : Nat) : Int))).q11
    rw [HPN.out, ← steps_next ne p0 v (nv + 1) hnp, ← HPN.out] at h1
    exact h1
  generalize hv1e : nv + 1 = nv1 at *
  have HV1 := Hid.mk' hv1e
  clear S' hrp S2 hv1e
  go_upto_region 20 with fail
  generalize (w4.setCell ⟨gp, p0.length * 2 + 1, none⟩ (.int .i64 (nv1 : Int))) = w5 at *
  clear c2 f2
  have S' := S3
  unfold TarL at S'
  have hlx := hT.lx
  have hlo := hT.lo
  have hbi : w5.heap[bi]? = _ := S'.tail.head
  have b0 : w5.cell? ⟨bi, 0, none⟩ = some (.slice (some ⟨gi, 0, none⟩) N N) := cell_of_row w5 bi 0 _ 28 (0, 0) hbi
  have hri : w5.ownsRow 0 3 1 (.slice (some ⟨gi, 0, none⟩) N N) N (nats ix) := S'.pp7.head
  have d1 : w5.cell? ⟨gi, y, none⟩ = some (.int .i64 ((ix.getD y 0 : Nat) : Int)) := by rw [hri.cellAt y (by omega)]; exact nats_get ix y (by omega)
  have hbo : w5.heap[bo]? = _ := S'.p5.head
  have b1 : w5.cell? ⟨bo, 0, none⟩ = some (.slice (some ⟨go, 0, none⟩) N N) := cell_of_row w5 bo 0 _ 73 (0, 0) hbo
  have hro : w5.ownsRow 0 4 1 (.slice (some ⟨go, 0, none⟩) N N) N (bools os) := S'.p9.head
  have d3 : w5.cell? ⟨go, y, none⟩ = some (.bool (os.getD y false)) := by rw [hro.cellAt y (by omega)]; simp [bools, show y < os.length by omega]
  obtain ⟨iy, hiy⟩ : ∃ iy, ix.getD y 0 = iy := ⟨_, rfl⟩
  obtain ⟨oy, hoy⟩ : ∃ oy, os.getD y false = oy := ⟨_, rfl⟩
  rw [hiy] at d1
  rw [hoy] at d3
  have HIY := Hid.mk' hiy
  have HOY := Hid.mk' hoy
  have w0' : (y : Int) < (N : Int) := by omega
  have w1' : (0 : Int) ≤ (y : Int) := by omega
  have hvpn : v ∈ pn := by rw [HPN.out]; simp
  have hyv : (A.getD v [])[ne v]? = some y := by rw [HWS.out, HNV.out]; exact HY.out
  have HYV := Hid.mk' hyv
  clear S' hbi hri hbo hro hiy hoy hyv
  by_cases hi0 : iy = 0
  · subst hi0
    have hyst : y ∉ st := fun hm => hT.t.pos y hm HIY.out
    have hyp : y ∉ pn := fun hm => hyst (hT.t.sub.subset hm)
    have hyv : v ≠ y := fun e => hyst (e ▸ hvst)
    have hT1 := hT.enter hyN HIY.out
    have hvv : vis ≤ N := hT.visN
    have hix := hT.t.top v
    have hT2 := hT1.next (v := v) (y := y) (by simp [hvpn]) (by rw [upd_ne ne 0 hyv]; exact HYV.out) (by rw [getD_set ix y _ y (by omega)]; simp) (fun _ => .inr (by rw [getD_set ix y _ y (by omega), getD_set ix y _ v (by omega), if_pos rfl, if_neg hyv]; have : ix.getD v 0 ≤ vis := hix; omega))
    rw [upd_ne ne 0 hyv, HNV.out, HV1.out, upd_comm ne 0 nv1 (fun e => hyv e.symm)] at hT2
    have hmu := mu_next (adj := adjF A) (N := N) (ix := fn ix) (ne := ne) hnp (show ne v < (A.getD v []).length by rw [HWS.out, HNV.out]; exact hed)
    rw [HNV.out, HV1.out, ← HPN.out, ← HH.out] at hmu
    have hmu2 := mu_enter (adj := adjF A) (N := N) (ix := fn ix) (ne := upd ne v nv1) (pn := pn) (z := vis + 1) hyN HIY.out (by omega) hyp
    rw [← fn_set ix y _ (by omega)] at hmu2
    have hv2 : ∀ r, r < k + 1 → (ix.set y (vis + 1)).getD r 0 ≠ 0 := fun r hr => by
      rw [getD_set ix y _ r (by omega)]
      split
      · omega
      · exact hvis r hr
    have hstl := hT.fc
    have hpl2 := hT.t.sub.length_le
    have h2 := hT.ll
    have HMU := Hid.mk' hmu
    have HMU2 := Hid.mk' hmu2
    have HV2 := Hid.mk' hv2
    clear hmu hmu2 hv2 hvis hT hT1 hix
    go_wp2_with fail
    refine (enter_any S3 y hyN hlx h2 hlo (by omega) (by omega) (by omega) hyp).mono ?_
    rintro r w6 ⟨rfl, vst1, vpt1, S4⟩
    clear S3 b0 b1 d1 d3
    go_wp2
    exact HEND.out _ _ _ _ _ _ _ _ _ _ _ _ _ _ _ _ _ _ _ _ _ _ _ _ _ _ _ _ _ _ _ _ _ _ _ _ _ _ _ _ _ _ _ ⟨vis + 1, _, _, cm, _, _, _, _, vst1, vpt1, by have h1 := HMU.out; have h3 := HMU2.out; omega, hT2, HV2.out, S4⟩
  · have hi0' : ((iy : Int) == 0) = false := by simp; omega
    cases oy with
    | true =>
      have hyst := (hT.on y).1 HOY.out
      have hll := hT.ll
      have S' := S3
      unfold TarL at S'
      have hbl : w5.heap[bl]? = _ := S'.tail.tail.head
      have b2 : w5.cell? ⟨bl, 0, none⟩ = some (.slice (some ⟨gl, 0, none⟩) N N) := cell_of_row w5 bl 0 _ 28 (0, 0) hbl
      have hrl : w5.ownsRow 0 3 1 (.slice (some ⟨gl, 0, none⟩) N N) N (nats lw) := S'.p8.head
      have d4 : w5.cell? ⟨gl, v, none⟩ = some (.int .i64 ((lw.getD v 0 : Nat) : Int)) := by rw [hrl.cellAt v (by omega)]; exact nats_get lw v (by omega)
      have f4 : w5.frozen? ⟨gl, v, none⟩ = false := hrl.frozenAt v
      obtain ⟨lv, hlv⟩ : ∃ lv, lw.getD v 0 = lv := ⟨_, rfl⟩
      rw [hlv] at d4
      obtain ⟨mv, hmv⟩ : ∃ mv, min lv iy = mv := ⟨_, rfl⟩
      have hT1 := hT.lower (z := iy) hvpn hvN ⟨y, hyst, by rw [HIY.out]; exact Nat.le_refl _⟩
      rw [hlv, hmv] at hT1
      have hT2 := hT1.next hvpn HYV.out (by rw [HIY.out]; exact hi0) (fun _ => .inl (by rw [getD_set lw v _ v (by omega), if_pos rfl, HIY.out, ← hmv]; exact Nat.min_le_right _ _))
      rw [HNV.out, HV1.out] at hT2
      have S4 := (S'.p8.store v (.int .i64 (mv : Int))).q8
      rw [← nats_set] at S4
      have S5 : Sep w0 (w5.setCell ⟨gl, v, none⟩ (.int .i64 (mv : Int))).drew (TarL bv bi bl bs bo bp gi gl go N vis ix (lw.set v mv) os vst (.slice (some ⟨gp, 0, none⟩) pn.length cp) st pn (upd ne v nv1) (Res.row 3 1 (.slice (some ⟨gc, 0, none⟩) N N) N (nats cm) :: Res.adj ga N vs A :: rs)) := S4.quiet ((Keeps.refl (fun _ => False) _).drew)
      have hmu := mu_next (adj := adjF A) (N := N) (ix := fn ix) (ne := ne) hnp (show ne v < (A.getD v []).length by rw [HWS.out, HNV.out]; exact hed)
      rw [HNV.out, HV1.out, ← HPN.out, ← HH.out] at hmu
      have HMU := Hid.mk' hmu
      have HVS := Hid.mk' hvis
      have HMV := Hid.mk' hmv
      clear hmu hvis hT hT1 S4 S' hrl hbl hlv S3 hmv
      go_upto_region 23 with fail
      by_cases hle : (lv : Int) ≤ (iy : Int)
      · obtain rfl : mv = lv := by have := HMV.out; omega
        go_still_tail 12, (by kernel_rfl)
        go_wp2
        exact HEND.out _ _ _ _ _ _ _ _ _ _ _ _ _ _ _ _ _ _ _ _ _ _ _ _ _ _ _ _ _ _ _ _ _ _ _ _ _ _ _ _ _ _ _ ⟨vis, ix, _, cm, os, upd ne v nv1, st, pn, vst, _, by have := HMU.out; omega, hT2, HVS.out, S5⟩
      · obtain rfl : mv = iy := by have := HMV.out; omega
        go_still_tail 12, (by kernel_rfl)
        go_wp2
        exact HEND.out _ _ _ _ _ _ _ _ _ _ _ _ _ _ _ _ _ _ _ _ _ _ _ _ _ _ _ _ _ _ _ _ _ _ _ _ _ _ _ _ _ _ _ ⟨vis, ix, _, cm, os, upd ne v nv1, st, pn, vst, _, by have := HMU.out; omega, hT2, HVS.out, S5⟩
    | false =>
      have hT2 := hT.next hvpn HYV.out (by rw [HIY.out]; exact hi0) (fun hm => by have := (hT.on y).2 hm; rw [HOY.out] at this; cases this)
      have hmu := mu_next (adj := adjF A) (N := N) (ix := fn ix) (ne := ne) hnp (show ne v < (A.getD v []).length by rw [HWS.out, HNV.out]; exact hed)
      rw [HNV.out, HV1.out] at hT2
      rw [HNV.out, HV1.out, ← HPN.out, ← HH.out] at hmu
      have HMU := Hid.mk' hmu
      have HVS := Hid.mk' hvis
      clear hmu hvis hT
      go_wp2
      exact HEND.out _ _ _ _ _ _ _ _ _ _ _ _ _ _ _ _ _ _ _ _ _ _ _ _ _ _ _ _ _ _ _ _ _ _ _ _ _ _ _ _ _ _ _ ⟨vis, ix, lw, cm, os, upd ne v nv1, st, pn, vst, _, by have := HMU.out; omega, hT2, HVS.out, S3⟩
end
end Go.Proofs.Ybulkcdco
