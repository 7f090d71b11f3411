import Derived.Test.YbulkcdcoCmO
namespace Go.Proofs.Ybulkcdco
open Go.RowKit
section
variable {w0 w3 : World} {bv bi bl bs bo bp gi gl go gc ga gp cp N k vis f v nv gk n1 : Nat} {vs : List Value} {A : List (List Nat)} {rs : List Res} {ix lw cm st pn p0 ws : List Nat} {os : List Bool} {ne : Nat → Nat} {vst : Value} {Q : Exit → Act → World → Prop}
set_option maxHeartbeats 6400000 in
set_option maxRecDepth 1000000 in
theorem done_wp (S1 : Sep w0 w3 (TarL bv bi bl bs bo bp gi gl go N vis ix lw os vst (.slice (some ⟨gp, 0, none⟩) pn.length cp) st pn ne (Res.row 3 1 (.slice (some ⟨gc, 0, none⟩) N N) N (nats cm) :: Res.adj ga N vs A :: rs))) (hN : N ≤ 4096) (hA : ∀ x, (A.getD x []).length ≤ 10000 ∧ ∀ y ∈ A.getD x [], y < N) (hT : TS A N ix lw cm os ne st pn vis f) (hvis : ∀ r, r < k + 1 → ix.getD r 0 ≠ 0) (hpn : pn = p0 ++ [v]) (hnp : v ∉ p0) (hvst : v ∈ st) (hvN : v < N) (hn1 : pn.length = n1) (hws : A.getD v [] = ws) (hnv : ne v = nv) (hn : gk = mu (adjF A) N (fn ix) ne pn) (hed : ¬ nv < ws.length) (c0 c1 c2 c9 c11 c12 c13 c15 c16 c17 c18 c19 c20 c21 c22 c23 c24 c25 c26 c27 c28 c29 c30 c31 c32 c33 c34 c35 c36 c37 c38 c39 c40 c41 c42 c43 c44 c45 c46 c47 c48 c49 c50 c51 c52 c53 c54 c55 c56 c57 c58 c59 c60 c61 c62 c63 c64 c65 c66 c67 c68 c69 c70 c71 c72 c73 c74 c75 c76 c77 c78 c79 c80 c81 c82 c83 c84 c85 c86 c87 c88 c89 c90 c91 c92 c93 c94 c95 c96 c97 c98 c99 c100 c101 c102 c103 c104 c105 c106 c107 c108 c109 c110 c111 c112 c113 c114 c115 c116 c117 c118 c119 c120 c121 c122 c123 c124 c125 c126 c127 c128 c129 c130 c131 c132 c133 c134 c135 c136 c137 c138 c139 c140 c141 c142 c143 c144 c145 c146 c147 c148 c149 c150 c151 c152 c153 c154 c155 c156 c157 c158 c159 c160 c161 c162 c163 c164 c165 c166 c167 : Value)
    (hend : ∀ (u16 u17 u107 u108 u109 u110 u111 u112 u113 u114 u115 u116 u117 u118 u119 u120 u121 u122 u123 u124 u125 u126 u127 u128 u129 u130 u131 u132 u133 u134 u135 u136 u137 u138 u139 u140 u141 u142 u143 u144 u145 u146 u147 u148 u149 u150 u151 u152 u153 u154 u155 u156 u157 u158 u159 u160 u161 u162 u163 u164 u165 : Value) (f' : Nat) (wx : World), Rnd w0 bv bi bl bs bo bp gi gl go gc ga N k vs A rs gk f' wx → Q .normal ⟨#[c0, c1, c2, .pointer (some ⟨bi, 0, none⟩), .pointer (some ⟨bl, 0, none⟩), .slice (some ⟨gc, 0, none⟩) N N, .pointer (some ⟨bo, 0, none⟩), .pointer (some ⟨bs, 0, none⟩), .pointer (some ⟨bp, 0, none⟩), c9, .int .i64 ((f' : Nat) : Int), c11, c12, c13, .int .i64 (v : Int), c15, u16, u17, c18, c19, c20, c21, c22, c23, c24, c25, c26, c27, c28, c29, c30, c31, c32, c33, c34, c35, c36, c37, c38, c39, c40, c41, c42, c43, c44, c45, c46, c47, c48, c49, c50, c51, c52, c53, c54, c55, c56, c57, c58, c59, c60, c61, c62, c63, c64, c65, c66, c67, c68, c69, c70, c71, c72, c73, c74, c75, c76, c77, c78, c79, c80, c81, c82, c83, c84, c85, c86, c87, c88, c89, c90, c91, c92, c93, c94, c95, c96, c97, c98, c99, c100, c101, c102, c103, c104, c105, c106, u107, u108, u109, u110, u111, u112, u113, u114, u115, u116, u117, u118, u119, u120, u121, u122, u123, u124, u125, u126, u127, u128, u129, u130, u131, u132, u133, u134, u135, u136, u137, u138, u139, u140, u141, u142, u143, u144, u145, u146, u147, u148, u149, u150, u151, u152, u153, u154, u155, u156, u157, u158, u159, u160, u161, u162, u163, u164, u165, c166, c167], []⟩ wx ∧ Q (.exit 3) ⟨#[c0, c1, c2, .pointer (some ⟨bi, 0, none⟩), .pointer (some ⟨bl, 0, none⟩), .slice (some ⟨gc, 0, none⟩) N N, .pointer (some ⟨bo, 0, none⟩), .pointer (some ⟨bs, 0, none⟩), .pointer (some ⟨bp, 0, none⟩), c9, .int .i64 ((f' : Nat) : Int), c11, c12, c13, .int .i64 (v : Int), c15, u16, u17, c18, c19, c20, c21, c22, c23, c24, c25, c26, c27, c28, c29, c30, c31, c32, c33, c34, c35, c36, c37, c38, c39, c40, c41, c42, c43, c44, c45, c46, c47, c48, c49, c50, c51, c52, c53, c54, c55, c56, c57, c58, c59, c60, c61, c62, c63, c64, c65, c66, c67, c68, c69, c70, c71, c72, c73, c74, c75, c76, c77, c78, c79, c80, c81, c82, c83, c84, c85, c86, c87, c88, c89, c90, c91, c92, c93, c94, c95, c96, c97, c98, c99, c100, c101, c102, c103, c104, c105, c106, u107, u108, u109, u110, u111, u112, u113, u114, u115, u116, u117, u118, u119, u120, u121, u122, u123, u124, u125, u126, u127, u128, u129, u130, u131, u132, u133, u134, u135, u136, u137, u138, u139, u140, u141, u142, u143, u144, u145, u146, u147, u148, u149, u150, u151, u152, u153, u154, u155, u156, u157, u158, u159, u160, u161, u162, u163, u164, u165, c166, c167], []⟩ wx) :
    Code.wp Yba.prog code24 Q ⟨#[c0, c1, c2, .pointer (some ⟨bi, 0, none⟩), .pointer (some ⟨bl, 0, none⟩), .slice (some ⟨gc, 0, none⟩) N N, .pointer (some ⟨bo, 0, none⟩), .pointer (some ⟨bs, 0, none⟩), .pointer (some ⟨bp, 0, none⟩), c9, .int .i64 (f : Int), c11, c12, c13, .int .i64 (v : Int), c15, c16, c17, c18, c19, c20, c21, c22, c23, c24, c25, c26, c27, c28, c29, c30, c31, c32, c33, c34, c35, c36, c37, c38, c39, c40, c41, c42, c43, c44, c45, c46, c47, c48, c49, c50, c51, c52, c53, c54, c55, c56, c57, c58, c59, c60, c61, c62, c63, c64, c65, c66, c67, c68, c69, c70, c71, c72, c73, c74, c75, c76, c77, c78, c79, c80, c81, c82, c83, c84, c85, c86, c87, c88, c89, c90, c91, c92, c93, c94, c95, c96, c97, c98, c99, c100, c101, c102, c103, c104, c105, c106, c107, c108, c109, c110, c111, c112, c113, c114, c115, c116, c117, c118, c119, c120, c121, c122, c123, c124, c125, c126, c127, c128, c129, c130, c131, c132, c133, c134, c135, c136, c137, c138, c139, c140, c141, c142, c143, c144, c145, c146, c147, c148, c149, c150, c151, c152, c153, c154, c155, c156, c157, c158, c159, c160, c161, c162, c163, c164, c165, c166, c167], []⟩ w3 := by
  conv => arg 2; whnf
  have HPN := Hid.mk' hpn
  have HWS := Hid.mk' hws
  have HNV := Hid.mk' hnv
  have HH := Hid.mk' hn
  have HN1 := Hid.mk' hn1
  have HEND := Hid.mk' hend
  have hn1e : n1 = p0.length + 1 := by rw [← hn1, hpn]; simp
  have HN1E := Hid.mk' hn1e
  have y0 : (n1 : Int) - 1 = (p0.length : Int) := by omega
  have y1 : (p0.length : Int) < (n1 : Int) := by omega
  have y2 : (0 : Int) ≤ (p0.length : Int) := by omega
  have x5 : (v : Int) < (N : Int) := by omega
  have x6 : (0 : Int) ≤ (v : Int) := by omega
  have hdv := (hA v).1
  rw [hws] at hdv
  have hpl : n1 ≤ N + 1 := by
    have h1 := hT.t.sub.length_le
    have h2 := hT.fc
    have h3 := hT.visN
    omega
  clear hn1e hpn hws hnv hn hn1 hend
  have hd : (A.getD v []).length ≤ ne v := by rw [HWS.out, HNV.out]; omega
  have HD := Hid.mk' hd
  have S' := S1
  unfold TarL at S'
  have hbp : w3.heap[bp]? = _ := S'.p6.head
  have c0 : w3.cell? ⟨bp, 0, none⟩ = some (.slice (some ⟨gp, 0, none⟩) n1 cp) := by rw [← HN1.out]; exact cell_of_row w3 bp 0 _ 74 (0, 0) hbp
  have f0 : w3.frozen? ⟨bp, 0, none⟩ = false := frozen_of_row w3 bp 0 _ 74 hbp
  have hrp : w3.ownsRow 0 76 2 (.slice (some ⟨gp, 0, none⟩) pn.length cp) pn.length (steps ne pn) := S'.p11.head
  have hcap := own_capS hrp
  have x7 : (p0.length : Int) ≤ (cp : Int) := by have := HN1.out; have := HN1E.out; omega
  have ho := own_takeS hrp p0.length (by have := HN1.out; have := HN1E.out; omega)
  rw [HPN.out, steps_take] at ho
  have S2 : Sep w0 (w3.setCell ⟨bp, 0, none⟩ (.slice (some ⟨gp, 0, none⟩) p0.length cp)) (TarL bv bi bl bs bo bp gi gl go N vis ix lw os vst (.slice (some ⟨gp, 0, none⟩) p0.length cp) st p0 ne (Res.row 3 1 (.slice (some ⟨gc, 0, none⟩) N N) N (nats cm) :: Res.adj ga N vs A :: rs)) := by
    have Sx := S'.p11.upd1 (r' := Res.row 76 2 (.slice (some ⟨gp, 0, none⟩) p0.length cp) p0.length (steps ne p0)) ho (Keeps.refl _ _) (fun b hb => .inl (by simp [Res.row, Value.ownBlock] at hb ⊢; exact hb))
    exact ((Sx.q11.p6).blkSet 0 _).q6
  rw [HPN.out] at hT
  have HT := Hid.mk' hT
  have HVS := Hid.mk' hvis
  clear S' S1 hbp hrp hcap ho hd hT hvis
  go_upto_region 25 with fail
  generalize (w3.setCell ⟨bp, 0, none⟩ (.slice (some ⟨gp, 0, none⟩) p0.length cp)) = w4 at *
  clear c0 f0
  have S' := S2
  unfold TarL at S'
  have hbp : w4.heap[bp]? = _ := S'.p6.head
  have c0 : w4.cell? ⟨bp, 0, none⟩ = some (.slice (some ⟨gp, 0, none⟩) p0.length cp) := cell_of_row w4 bp 0 _ 74 (0, 0) hbp
  clear hbp S'
  go_upto_if 114 with fail
  go_cut [16] from 107 to 165 (fun _ wc => ∃ lw', Sep w0 wc (TarL bv bi bl bs bo bp gi gl go N vis ix lw' os vst (.slice (some ⟨gp, 0, none⟩) p0.length cp) st p0 ne (Res.row 3 1 (.slice (some ⟨gc, 0, none⟩) N N) N (nats cm) :: Res.adj ga N vs A :: rs)) ∧ TS A N ix lw' cm os ne st (p0 ++ [v]) vis f ∧ ∀ q u, p0 = q ++ [u] → lw'.getD u 0 ≤ lw'.getD v 0)
  case first =>
    by_cases hp : p0.length = 0
    · have hp1 : p0 = [] := List.eq_nil_of_length_eq_zero hp
      go_wp2
      go_meet
      exact ⟨lw, S2, HT.out, fun q u e => by rw [hp1] at e; simp at e⟩
    · obtain ⟨q, u, hqu⟩ : ∃ q u, p0 = q ++ [u] := ⟨p0.dropLast, p0.getLast (by intro h; simp [h] at hp), (List.dropLast_concat_getLast _).symm⟩
      have hupn : u ∈ p0 ++ [v] := by simp [hqu]
      have huN := HT.out.t.lt u (HT.out.t.sub.subset hupn)
      have huv : v ≠ u := fun e => hnp (by rw [hqu, e]; simp)
      have hql : p0.length = q.length + 1 := by rw [hqu]; simp
      have z0 : (p0.length : Int) - 1 = (q.length : Int) := by omega
      have z1 : (q.length : Int) < (p0.length : Int) := by omega
      have z2 : (0 : Int) ≤ (q.length : Int) := by omega
      have z3 : decide ((0 : Int) < (p0.length : Int)) = true := by simp; omega
      have z4 : (u : Int) < (N : Int) := by omega
      have z5 : (0 : Int) ≤ (u : Int) := by omega
      have S' := S2
      unfold TarL at S'
      have hrp : w4.ownsRow 0 76 2 (.slice (some ⟨gp, 0, none⟩) p0.length cp) p0.length (steps ne p0) := S'.p11.head
      have c1 : w4.cell? ⟨gp, q.length * 2, none⟩ = some (.int .i64 (u : Int)) := by
        have := hrp.cells (g := gp) rfl (q.length * 2) (.int .i64 (u : Int)) (by rw [hqu, steps_top, List.getElem?_append_right (by rw [steps_len]; omega), steps_len]; simp)
        rw [addr0] at this; exact this
      have hll := HT.out.ll
      have hbl : w4.heap[bl]? = _ := S'.tail.tail.head
      have b2 : w4.cell? ⟨bl, 0, none⟩ = some (.slice (some ⟨gl, 0, none⟩) N N) := cell_of_row w4 bl 0 _ 28 (0, 0) hbl
      have hrl : w4.ownsRow 0 3 1 (.slice (some ⟨gl, 0, none⟩) N N) N (nats lw) := S'.p8.head
      have d4 : w4.cell? ⟨gl, u, none⟩ = some (.int .i64 ((lw.getD u 0 : Nat) : Int)) := by rw [hrl.cellAt u (by omega)]; exact nats_get lw u (by omega)
      have d5 : w4.cell? ⟨gl, v, none⟩ = some (.int .i64 ((lw.getD v 0 : Nat) : Int)) := by rw [hrl.cellAt v (by omega)]; exact nats_get lw v (by omega)
      have f4 : w4.frozen? ⟨gl, u, none⟩ = false := hrl.frozenAt u
      obtain ⟨lu, hlu⟩ : ∃ lu, lw.getD u 0 = lu := ⟨_, rfl⟩
      obtain ⟨lv, hlv⟩ : ∃ lv, lw.getD v 0 = lv := ⟨_, rfl⟩
      rw [hlu] at d4
      rw [hlv] at d5
      obtain ⟨mv, hmv⟩ : ∃ mv, min lu lv = mv := ⟨_, rfl⟩
      have hT1 := HT.out.lower (v := u) (z := lv) hupn huN (by rw [← hlv]; exact HT.out.lowb (by simp))
      rw [hlu, hmv] at hT1
      have S4 := (S'.p8.store u (.int .i64 (mv : Int))).q8
      rw [← nats_set] at S4
      have S5 : Sep w0 (w4.setCell ⟨gl, u, none⟩ (.int .i64 (mv : Int))).drew (TarL bv bi bl bs bo bp gi gl go N vis ix (lw.set u mv) os vst (.slice (some ⟨gp, 0, none⟩) p0.length cp) st p0 ne (Res.row 3 1 (.slice (some ⟨gc, 0, none⟩) N N) N (nats cm) :: Res.adj ga N vs A :: rs)) := S4.quiet ((Keeps.refl (fun _ => False) _).drew)
      have hle' : ∀ q' u', p0 = q' ++ [u'] → (lw.set u mv).getD u' 0 ≤ (lw.set u mv).getD v 0 := fun q' u' e => by
        have e1 : u' = u := by
          have := (List.append_inj' (hqu.symm.trans e) rfl).2
          simpa using this.symm
        subst e1
        rw [getD_set lw u' _ u' (by omega), getD_set lw u' _ v (by omega), if_pos rfl, if_neg huv, hlv, ← hmv]
        exact Nat.min_le_right _ _
      have HLE := Hid.mk' hle'
      have HMV := Hid.mk' hmv
      clear S4 S' hrl hbl hlv hlu S2 hmv hle' hqu hrp hql hp
      go_upto_region 27 with fail
      by_cases hle : (lu : Int) ≤ (lv : Int)
      · obtain rfl : mv = lu := by have := HMV.out; omega
        go_still_tail 12, (by kernel_rfl)
        go_wp2
        go_meet
        exact ⟨_, S5, hT1, HLE.out⟩
      · obtain rfl : mv = lv := by have := HMV.out; omega
        go_still_tail 12, (by kernel_rfl)
        go_wp2
        go_meet
        exact ⟨_, S5, hT1, HLE.out⟩
  case rest =>
    obtain ⟨lw', S3, hT, hlu⟩ := hcut
    have hll := hT.ll
    have hlx := hT.lx
    have S' := S3
    unfold TarL at S'
    have hbi : wc.heap[bi]? = _ := S'.tail.head
    have b0 : wc.cell? ⟨bi, 0, none⟩ = some (.slice (some ⟨gi, 0, none⟩) N N) := cell_of_row wc bi 0 _ 28 (0, 0) hbi
    have hri : wc.ownsRow 0 3 1 (.slice (some ⟨gi, 0, none⟩) N N) N (nats ix) := S'.pp7.head
    have d1 : wc.cell? ⟨gi, v, none⟩ = some (.int .i64 ((ix.getD v 0 : Nat) : Int)) := by rw [hri.cellAt v (by omega)]; exact nats_get ix v (by omega)
    have hbl : wc.heap[bl]? = _ := S'.tail.tail.head
    have b2 : wc.cell? ⟨bl, 0, none⟩ = some (.slice (some ⟨gl, 0, none⟩) N N) := cell_of_row wc bl 0 _ 28 (0, 0) hbl
    have hrl : wc.ownsRow 0 3 1 (.slice (some ⟨gl, 0, none⟩) N N) N (nats lw') := S'.p8.head
    have d4 : wc.cell? ⟨gl, v, none⟩ = some (.int .i64 ((lw'.getD v 0 : Nat) : Int)) := by rw [hrl.cellAt v (by omega)]; exact nats_get lw' v (by omega)
    obtain ⟨iv, hiv⟩ : ∃ iv, ix.getD v 0 = iv := ⟨_, rfl⟩
    obtain ⟨lv, hlv⟩ : ∃ lv, lw'.getD v 0 = lv := ⟨_, rfl⟩
    rw [hiv] at d1
    rw [hlv] at d4
    have HIV := Hid.mk' hiv
    have HLV := Hid.mk' hlv
    have HLU := Hid.mk' hlu
    have hmu : mu (adjF A) N (fn ix) ne p0 + 1 ≤ mu (adjF A) N (fn ix) ne (p0 ++ [v]) := mu_pop
    rw [← HPN.out, ← HH.out] at hmu
    have HMU := Hid.mk' hmu
    clear S' hbi hri hbl hrl hiv hlv hlu hmu S2
    go_upto_region 28 with fail
    by_cases hroot : lv = iv
    · have hr' : ((lv : Int) != (iv : Int)) = false := by simp [hroot]
      go_quiet (fail)
      have S4 := S3.quiet ((Keeps.refl (fun _ => False) wc).drewN nq)
      generalize wc.drewN nq = w5 at *
      have hrt : lw'.getD v 0 = ix.getD v 0 := by rw [HIV.out, HLV.out, hroot]
      have HRT := Hid.mk' hrt
      have HT2 := Hid.mk' hT
      clear S3 b0 b2 d1 d4 hrt hT hroot hr'
      go_wp2
      go_loopg [17] st.length (fun n _ wx => ∃ (cm' stk : List Nat) (os' : List Bool) (vsk : Value), n = stk.length ∧ Po N f v st cm cm' os' stk ∧ Sep w0 wx (TarL bv bi bl bs bo bp gi gl go N vis ix lw' os' vsk (.slice (some ⟨gp, 0, none⟩) p0.length cp) stk p0 ne (Res.row 3 1 (.slice (some ⟨gc, 0, none⟩) N N) N (nats cm') :: Res.adj ga N vs A :: rs)))
      case atStart => exact ⟨cm, st, os, vst, rfl, Po.start HT2.out hvst, S4⟩
      case round =>
        clear S4
        obtain ⟨cm', stk, os', vsk, hnn, hPo, S⟩ := hrel
        obtain ⟨sx, z, hsz⟩ : ∃ sx z, stk = sx ++ [z] := by
          have hne : stk ≠ [] := fun e => by have := hPo.mem; rw [e] at this; cases this
          exact ⟨stk.dropLast, stk.getLast hne, (List.dropLast_concat_getLast hne).symm⟩
        subst hsz
        obtain ⟨m1, hm1⟩ : ∃ m1, (sx ++ [z]).length = m1 := ⟨_, rfl⟩
        have hm2 : m1 = sx.length + 1 := by rw [← hm1]; simp
        have hzst : z ∈ st ∧ m1 ≤ st.length := by
          obtain ⟨t1, e, -, -⟩ := hPo.ex
          refine ⟨by rw [e]; simp, ?_⟩
          rw [e, List.length_append, hm1]; omega
        have hzN := HT2.out.t.lt z hzst.1
        have hfc := HT2.out.fc
        have hvn := HT2.out.visN
        have hlc := hPo.lc
        have hlo := hPo.lo
        have S' := S
        unfold TarL at S'
        have hbs : wr.heap[bs]? = _ := S'.p4.head
        obtain ⟨gs, cs, hvs, hcap, -, hcell⟩ := own_atB (show wr.ownsRow 0 3 1 vsk (sx ++ [z]).length (nats (sx ++ [z])) from S'.p10.head) (by omega)
        subst hvs
        have c0 : wr.cell? ⟨bs, 0, none⟩ = some (.slice (some ⟨gs, 0, none⟩) m1 cs) := by rw [← hm1]; exact cell_of_row wr bs 0 _ 28 (0, 0) hbs
        have f0 : wr.frozen? ⟨bs, 0, none⟩ = false := frozen_of_row wr bs 0 _ 28 hbs
        have c1 : wr.cell? ⟨gs, sx.length, none⟩ = some (.int .i64 (z : Int)) := by rw [(hcell sx.length (by omega)).1]; simp [nats]
        have ho := own_takeB (show wr.ownsRow 0 3 1 (.slice (some ⟨gs, 0, none⟩) (sx ++ [z]).length cs) (sx ++ [z]).length (nats (sx ++ [z])) from S'.p10.head) sx.length (by omega)
        have e : (nats (sx ++ [z])).take sx.length = nats sx := by rw [nats_append, List.take_left' (by rw [nats_len])]
        rw [e] at ho
        have S5 : Sep w0 (wr.setCell ⟨bs, 0, none⟩ (.slice (some ⟨gs, 0, none⟩) sx.length cs)) (TarL bv bi bl bs bo bp gi gl go N vis ix lw' os' (.slice (some ⟨gs, 0, none⟩) sx.length cs) (.slice (some ⟨gp, 0, none⟩) p0.length cp) sx p0 ne (Res.row 3 1 (.slice (some ⟨gc, 0, none⟩) N N) N (nats cm') :: Res.adj ga N vs A :: rs)) := by
          have Sx := S'.p10.upd1 (r' := Res.row 3 1 (.slice (some ⟨gs, 0, none⟩) sx.length cs) sx.length (nats sx)) ho (Keeps.refl _ _) (fun b hb => .inl (by simp [Res.row, Value.ownBlock] at hb ⊢; exact hb))
          exact ((Sx.q10.p4).blkSet 0 _).q4
        have a0 : (m1 : Int) - 1 = (sx.length : Int) := by omega
        have a1 : (sx.length : Int) < (m1 : Int) := by omega
        have a2 : (0 : Int) ≤ (sx.length : Int) := by omega
        have a3 : (sx.length : Int) ≤ (cs : Int) := by omega
        have a4 : (z : Int) < (N : Int) := by omega
        have a5 : (0 : Int) ≤ (z : Int) := by omega
        have HNN := Hid.mk' hnn
        have HM1 := Hid.mk' hm1
        have HM2 := Hid.mk' hm2
        clear S S' hbs hcell ho e hnn hm1 hm2 hcap
        go_upto_region 31 with fail
        generalize (wr.setCell ⟨bs, 0, none⟩ (.slice (some ⟨gs, 0, none⟩) sx.length cs)) = w6 at *
        clear c0 f0 c1
        have S' := S5
        unfold TarL at S'
        have hbo : w6.heap[bo]? = _ := S'.p5.head
        have b1 : w6.cell? ⟨bo, 0, none⟩ = some (.slice (some ⟨go, 0, none⟩) N N) := cell_of_row w6 bo 0 _ 73 (0, 0) hbo
        have hro : w6.ownsRow 0 4 1 (.slice (some ⟨go, 0, none⟩) N N) N (bools os') := S'.p9.head
        have d3 : w6.cell? ⟨go, z, none⟩ = some (.bool (os'.getD z false)) := by rw [hro.cellAt z (by omega)]; simp [bools, show z < os'.length by omega]
        have f3 : w6.frozen? ⟨go, z, none⟩ = false := hro.frozenAt z
        have S6 : Sep w0 (w6.setCell ⟨go, z, none⟩ (.bool false)) (TarL bv bi bl bs bo bp gi gl go N vis ix lw' (os'.set z false) (.slice (some ⟨gs, 0, none⟩) sx.length cs) (.slice (some ⟨gp, 0, none⟩) p0.length cp) sx p0 ne (Res.row 3 1 (.slice (some ⟨gc, 0, none⟩) N N) N (nats cm') :: Res.adj ga N vs A :: rs)) := by
          have h1 := (S'.p9.store z (.bool false)).q9
          rw [← bools_set] at h1
          exact h1
        clear S' hbo hro S5
        go_upto_region 32 with fail
        generalize (w6.setCell ⟨go, z, none⟩ (.bool false)) = w7 at *
        clear b1 d3 f3
        have S' := S6
        unfold TarL at S'
        have hrc : w7.ownsRow 0 3 1 (.slice (some ⟨gc, 0, none⟩) N N) N (nats cm') := S'.p12.head
        have d4 : w7.cell? ⟨gc, z, none⟩ = some (.int .i64 ((cm'.getD z 0 : Nat) : Int)) := by rw [hrc.cellAt z (by omega)]; exact nats_get cm' z (by omega)
        have f4 : w7.frozen? ⟨gc, z, none⟩ = false := hrc.frozenAt z
        have S7 : Sep w0 (w7.setCell ⟨gc, z, none⟩ (.int .i64 (f : Int))) (TarL bv bi bl bs bo bp gi gl go N vis ix lw' (os'.set z false) (.slice (some ⟨gs, 0, none⟩) sx.length cs) (.slice (some ⟨gp, 0, none⟩) p0.length cp) sx p0 ne (Res.row 3 1 (.slice (some ⟨gc, 0, none⟩) N N) N (nats (cm'.set z f)) :: Res.adj ga N vs A :: rs)) := by
          have h1 := (S'.p12.store z (.int .i64 (f : Int))).q12
          rw [← nats_set] at h1
          exact h1
        clear S' hrc S6
        go_upto_region 33 with fail
        generalize (w7.setCell ⟨gc, z, none⟩ (.int .i64 (f : Int))) = w8 at *
        clear d4 f4
        by_cases hzv : z = v
        · subst hzv
          have hT3 := hPo.last HT2.out hvN HD.out HRT.out
          obtain ⟨f1, hf1⟩ : ∃ f1, f + 1 = f1 := ⟨_, rfl⟩
          have hff : (f : Int) + 1 = (f1 : Int) := by omega
          have hfb : f1 ≤ 5000 := by omega
          rw [hf1] at hT3
          have HT3 := Hid.mk' hT3
          clear hT3 hPo hf1
          go_wp2
          exact (HEND.out _ _ _ _ _ _ _ _ _ _ _ _ _ _ _ _ _ _ _ _ _ _ _ _ _ _ _ _ _ _ _ _ _ _ _ _ _ _ _ _ _ _ _ _ _ _ _ _ _ _ _ _ _ _ _ _ _ _ _ _ _ _ _ ⟨vis, ix, lw', _, _, ne, sx, p0, _, _, by have := HMU.out; omega, HT3.out, HVS.out, S7⟩).1
        · have hzv' : ((z : Int) == (v : Int)) = false := by simp; omega
          have hP := hPo.step HT2.out.nodup hzN hzv
          have HP := Hid.mk' hP
          clear hP hPo
          go_wp2
          go_roundg sx.length
          case measure => have := HNN.out; have := HM1.out; have := HM2.out; omega
          case rel => exact ⟨_, sx, _, _, rfl, HP.out, S7⟩
    · have hr' : ((lv : Int) != (iv : Int)) = true := by simp; omega
      have hT2 : TS A N ix lw' cm os ne st p0 vis f := by
        rcases List.eq_nil_or_concat p0 with e | ⟨q, u, e⟩
        · subst e
          have := hT.first
          rw [HIV.out, HLV.out] at this
          exact absurd this hroot
        · have hl := HLU.out q u (by simpa using e)
          rw [List.concat_eq_append] at e
          rw [e] at hT ⊢
          exact hT.pop HD.out hl
      go_quiet (fail)
      have S4 := S3.quiet ((Keeps.refl (fun _ => False) wc).drewN nq)
      generalize wc.drewN nq = w5 at *
      have HT2 := Hid.mk' hT2
      clear S3 b0 b2 d1 d4 hT hT2 hroot
      go_wp2
      exact (HEND.out _ _ _ _ _ _ _ _ _ _ _ _ _ _ _ _ _ _ _ _ _ _ _ _ _ _ _ _ _ _ _ _ _ _ _ _ _ _ _ _ _ _ _ _ _ _ _ _ _ _ _ _ _ _ _ _ _ _ _ _ _ _ _ ⟨vis, ix, lw', cm, os, ne, st, p0, vst, _, by have := HMU.out; omega, HT2.out, HVS.out, S4⟩).2
end
end Go.Proofs.Ybulkcdco
