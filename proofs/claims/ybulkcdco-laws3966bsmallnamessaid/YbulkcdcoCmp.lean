import Derived.Test.YbulkcdcoCmA
import Derived.Test.YbulkcdcoCmB
namespace Go.Proofs.Ybulkcdco
open Go.RowKit
section
variable {w0 w : World} {ga N : Nat} {vs : List Value} {A : List (List Nat)} {rs : List Res}

set_option maxHeartbeats 6400000 in
set_option maxRecDepth 1000000 in
theorem comps_any (S : Sep w0 w (Res.adj ga N vs A :: rs)) (hN : N ≤ 4096) (hA : ∀ x, (A.getD x []).length ≤ 10000 ∧ ∀ y ∈ A.getD x [], y < N) :
    Calls Yba.prog 16 #[.slice (some ⟨ga, 0, none⟩) N N] w fun r w' => ∃ (gc : Nat) (cm : List Nat), r = .returned (.slice (some ⟨gc, 0, none⟩) N N) ∧ cm.length = N ∧ Sep w0 w' (Res.row 3 1 (.slice (some ⟨gc, 0, none⟩) N N) N (nats cm) :: Res.adj ga N vs A :: rs) ∧
      ∀ u v, u < N → v < N → Way (Nb A) u v → Way (Nb A) v u → cm.getD u 0 = cm.getD v 0 := by
  have hmk1 := run_make_row' (P := Yba.prog) 28 3 (.int .i64 0) 8 Yba.underlying28 Yba.infoB3 rfl .i64 .i64 N (by omega) (by omega)
  have hmk2 := run_make_row' (P := Yba.prog) 73 4 (.bool false) 1 Yba.underlying73 Yba.infoE4 rfl .i64 .i64 N (by omega) (by omega)
  have hmf : ∀ (fn : Fn) (first cap : Array Value) (w : World), (Instr.makeFunc fn first cap).run Yba.prog w = .ok (.func fn first cap) w := fun _ _ _ _ => rfl
  have z1 : ∀ (W : World) (o : Obj) {h : Nat}, W.heap.size = h → (W.alloc o).heap.size = h + 1 := fun W o h e => by simp [e]
  obtain ⟨h, hh⟩ : ∃ h, w.heap.size = h := ⟨_, rfl⟩
  have S1 := S.rowAt N (by omega) hh
  have e1 := z1 w (.cells (madeCells #[Value.int .i64 0] N) 3) hh
  have S2 := S1.blkAt #[.slice (some ⟨h, 0, none⟩) N N] 28 e1
  have e2 := z1 _ (.cells #[.slice (some ⟨h, 0, none⟩) N N] 28) e1
  have S3 := S2.rowAt N (by omega) e2
  have e3 := z1 _ (.cells (madeCells #[Value.int .i64 0] N) 3) e2
  have S4 := S3.blkAt #[.slice (some ⟨h + 1 + 1, 0, none⟩) N N] 28 e3
  have e4 := z1 _ (.cells #[.slice (some ⟨h + 1 + 1, 0, none⟩) N N] 28) e3
  have S5 := S4.rowAt N (by omega) e4
  have e5 := z1 _ (.cells (madeCells #[Value.int .i64 0] N) 3) e4
  have S6 := S5.boolAt N (by omega) e5
  have e6 := z1 _ (.cells (madeCells #[Value.bool false] N) 4) e5
  have S7 := S6.blkAt #[.slice (some ⟨h + 1 + 1 + 1 + 1 + 1, 0, none⟩) N N] 73 e6
  have e7 := z1 _ (.cells #[.slice (some ⟨h + 1 + 1 + 1 + 1 + 1, 0, none⟩) N N] 73) e6
  have S8 := S7.blkAt #[.slice none 0 0] 28 e7
  have e8 := z1 _ (.cells #[.slice none 0 0] 28) e7
  have S9 := S8.blkAt #[.slice none 0 0] 74 e8
  have e9 := z1 _ (.cells #[.slice none 0 0] 74) e8
  have S10 := S9.blkAt #[.int .i64 0] 3 e9
  have S11 := ((S10.nilRow 3 1).nilRow 76 2).p13.p9.p3.p4.p9.p11.p13.p9.p11.p11.p12.p13.p13
  clear S S1 S2 S3 S4 S5 S6 S7 S8 S9 S10 e1 e2 e3 e4 e5 e6 e7 e8 e9
  go_enter Yba.func16, Yba.ntmps16
  go_wp2
  clear hmk1 hmk2 hmf z1 hh
  generalize h + 1 + 1 + 1 + 1 + 1 + 1 + 1 + 1 + 1 = bv at *
  generalize h + 1 + 1 + 1 + 1 + 1 + 1 + 1 + 1 = bp at *
  generalize h + 1 + 1 + 1 + 1 + 1 + 1 + 1 = bs at *
  generalize h + 1 + 1 + 1 + 1 + 1 + 1 = bo at *
  generalize h + 1 + 1 + 1 + 1 + 1 = go at *
  generalize h + 1 + 1 + 1 + 1 = gc at *
  generalize h + 1 + 1 + 1 = bl at *
  generalize h + 1 + 1 = gl at *
  generalize h + 1 = bi at *
  generalize ((((((((((w.alloc (.cells (madeCells #[Value.int .i64 0] N) 3)).alloc (.cells #[.slice (some ⟨h, 0, none⟩) N N] 28)).alloc (.cells (madeCells #[Value.int .i64 0] N) 3)).alloc (.cells #[.slice (some ⟨gl, 0, none⟩) N N] 28)).alloc (.cells (madeCells #[Value.int .i64 0] N) 3)).alloc (.cells (madeCells #[Value.bool false] N) 4)).alloc (.cells #[.slice (some ⟨go, 0, none⟩) N N] 73)).alloc (.cells #[.slice none 0 0] 28)).alloc (.cells #[.slice none 0 0] 74)).alloc (.cells #[.int .i64 0] 3)) = w1 at *
  generalize h = gi at *
  have S11 : Sep w0 w1 (TarL bv bi bl bs bo bp gi gl go N 0 (List.replicate N 0) (List.replicate N 0) (List.replicate N false) (.slice none 0 0) (.slice none 0 0) [] [] (fun _ => 0) (Res.row 3 1 (.slice (some ⟨gc, 0, none⟩) N N) N (nats (List.replicate N 0)) :: Res.adj ga N vs A :: rs)) := S11
  go_loopw [10, 12, 13, 14, 15, 16, 17, 33] (fun vf _ _ _ _ _ _ vr wx => ∃ (k f vis : Nat) (ix lw cm : List Nat) (os : List Bool) (ne : Nat → Nat) (vst vpt : Value), k ≤ N ∧ vr = .int .i64 k ∧ vf = .int .i64 f ∧ TS A N ix lw cm os ne [] [] vis f ∧ (∀ r, r < k → ix.getD r 0 ≠ 0) ∧ Sep w0 wx (TarL bv bi bl bs bo bp gi gl go N vis ix lw os vst vpt [] [] ne (Res.row 3 1 (.slice (some ⟨gc, 0, none⟩) N N) N (nats cm) :: Res.adj ga N vs A :: rs))) (fun _ _ _ _ _ _ _ vr _ => N - (intOf vr).toNat)
  case atStart => exact ⟨0, 0, 0, _, _, _, _, _, _, _, by omega, rfl, rfl, TS.start A N _, (fun r h => by omega), S11⟩
  case round =>
    clear S11
    obtain ⟨k, f, vis, ix, lw, cm, os, ne, vst, vpt, hk, rfl, rfl, hT, hvis, S⟩ := hrel
    by_cases hlt : k < N
    · have x0 : (k : Int) < (N : Int) := by omega
      have x1 : (0 : Int) ≤ (k : Int) := by omega
      have S' := S
      unfold TarL at S'
      have hbi : wr.heap[bi]? = _ := S'.tail.head
      have c0 : wr.cell? ⟨bi, 0, none⟩ = some (.slice (some ⟨gi, 0, none⟩) N N) := cell_of_row wr bi 0 _ 28 (0, 0) hbi
      have hri : wr.ownsRow 0 3 1 (.slice (some ⟨gi, 0, none⟩) N N) N (nats ix) := S'.pp7.head
      have hlx := hT.lx
      have d1 : wr.cell? ⟨gi, k, none⟩ = some (.int .i64 ((ix.getD k 0 : Nat) : Int)) := by rw [hri.cellAt k (by omega)]; exact nats_get ix k (by omega)
      obtain ⟨xk, hxk⟩ : ∃ xk, ix.getD k 0 = xk := ⟨_, rfl⟩
      rw [hxk] at d1
      have HXK := Hid.mk' hxk
      clear S' hbi hri hxk
      by_cases h0 : xk = 0
      · subst h0
        have hT1 := hT.enter hlt HXK.out
        have hvn := hT.visN
        have hv1 : ∀ r, r < k + 1 → (ix.set k (vis + 1)).getD r 0 ≠ 0 := fun r hr => by
          rw [getD_set ix k _ r (by omega)]
          split
          · omega
          · exact hvis r (by omega)
        have HV1 := Hid.mk' hv1
        have h2 := hT.ll
        have h3 := hT.lo
        clear hv1 hvis
        go_wp2_with fail
        refine (enter_any S k hlt hlx h2 h3 (by omega) (by simp) (by simp) (by simp)).mono ?_
        rintro r w2 ⟨rfl, vst1, vpt1, S1⟩
        clear S c0 d1 hT h2 h3 hlx
        go_wp2
        go_loopg [10, 13, 14, 15, 16, 17] (mu (adjF A) N (fn (ix.set k (vis + 1))) (upd ne k 0) ([] ++ [k])) (fun n vf _ _ _ _ _ wx => ∃ (f vis : Nat) (ix lw cm : List Nat) (os : List Bool) (ne : Nat → Nat) (st pn : List Nat) (vst vpt : Value), n = mu (adjF A) N (fn ix) ne pn ∧ vf = .int .i64 f ∧ TS A N ix lw cm os ne st pn vis f ∧ (∀ r, r < k + 1 → ix.getD r 0 ≠ 0) ∧ Sep w0 wx (TarL bv bi bl bs bo bp gi gl go N vis ix lw os vst vpt st pn ne (Res.row 3 1 (.slice (some ⟨gc, 0, none⟩) N N) N (nats cm) :: Res.adj ga N vs A :: rs)))
        case atStart => exact ⟨f, vis + 1, _, _, cm, _, _, _, _, vst1, vpt1, rfl, rfl, hT1, HV1.out, S1⟩
        case round =>
          clear S1 hT1 HV1 HXK hvn
          obtain ⟨f, vis, ix, lw, cm, os, ne, st, pn, vst, vpt, hn, rfl, hT, hvis, S⟩ := hrel
          have S' := S
          unfold TarL at S'
          have hbp : wr.heap[bp]? = _ := S'.p6.head
          obtain ⟨ap, cp, hvp⟩ := own_sliceB (show wr.ownsRow 0 76 2 vpt pn.length (steps ne pn) from S'.p11.head)
          subst hvp
          have c0 : wr.cell? ⟨bp, 0, none⟩ = some (.slice ap pn.length cp) := cell_of_row wr bp 0 _ 74 (0, 0) hbp
          clear S' hbp
          by_cases hp0 : pn.length = 0
          · obtain rfl : pn = [] := List.eq_nil_of_length_eq_zero hp0
            obtain rfl : st = [] := hT.t.empty
            have HV := Hid.mk' hvis
            clear hvis
            go_wp2
            go_roundw
            case rel => exact ⟨k + 1, f, vis, ix, lw, cm, os, ne, vst, _, by omega, by go_num, rfl, hT, HV.out, S⟩
            case measure => simp [intOf]; omega
          · obtain ⟨p0, v, hpn⟩ : ∃ p0 v, pn = p0 ++ [v] := ⟨pn.dropLast, pn.getLast (by intro h; simp [h] at hp0), (List.dropLast_concat_getLast _).symm⟩
            have hvst : v ∈ st := hT.t.sub.subset (by simp [hpn])
            have hvN := hT.t.lt v hvst
            have hnp : v ∉ p0 := fun hm => by
              have h1 := (hT.t.srt.sublist hT.t.sub)
              rw [hpn] at h1
              have := (List.pairwise_append.1 h1).2.2 v hm v (by simp)
              omega
            obtain ⟨n1, hn1⟩ : ∃ n1, pn.length = n1 := ⟨_, rfl⟩
            have hn1e : n1 = p0.length + 1 := by rw [← hn1, hpn]; simp
            have hpl : n1 ≤ N + 1 := by
              have h1 := hT.t.sub.length_le
              have h2 := hT.fc
              have h3 := hT.visN
              omega
            rw [hn1] at c0
            have y0 : (n1 : Int) - 1 = (p0.length : Int) := by omega
            have y1 : (p0.length : Int) < (n1 : Int) := by omega
            have y2 : (0 : Int) ≤ (p0.length : Int) := by omega
            have y3 : decide ((0 : Int) < (n1 : Int)) = true := by simp; omega
            have HN1 := Hid.mk' hn1
            have HN1E := Hid.mk' hn1e
            have S' := S
            unfold TarL at S'
            have hrp : wr.ownsRow 0 76 2 (.slice ap pn.length cp) pn.length (steps ne pn) := S'.p11.head
            obtain ⟨gp, hap⟩ : ∃ gp, ap = some ⟨gp, 0, none⟩ := by
              rcases hrp.2 with ⟨h1, h2⟩ | ⟨g, cap, cur, h1, _⟩
              · omega
              · cases h1; exact ⟨g, rfl⟩
            subst hap
            have hcp : ∀ j u, (steps ne pn)[j]? = some u → wr.cell? ⟨gp, j, none⟩ = some u := fun j u hu => by
              have := hrp.cells (g := gp) rfl j u hu
              rwa [addr0 gp j] at this
            have c1 : wr.cell? ⟨gp, p0.length * 2, none⟩ = some (.int .i64 (v : Int)) := hcp _ _ (by rw [hpn, steps_top, List.getElem?_append_right (by rw [steps_len]; omega), steps_len]; simp)
            have c2 : wr.cell? ⟨gp, p0.length * 2 + 1, none⟩ = some (.int .i64 ((ne v : Nat) : Int)) := hcp _ _ (by rw [hpn, steps_top, List.getElem?_append_right (by rw [steps_len]; omega), steps_len, show p0.length * 2 + 1 - p0.length * 2 = 1 by omega]; rfl)
            obtain ⟨va, hva, hvc, hvf, hvo⟩ := Adj.at_ (show Adj wr ga N vs A from S'.p13.head) v hvN
            obtain ⟨aw, cw, hvw⟩ := own_sliceB hvo
            subst hvw
            have x5 : (v : Int) < (N : Int) := by omega
            have x6 : (0 : Int) ≤ (v : Int) := by omega
            have hdv := (hA v).1
            obtain ⟨ws, hws⟩ : ∃ ws, A.getD v [] = ws := ⟨_, rfl⟩
            rw [hws] at hvc hvo hdv
            obtain ⟨nv, hnv⟩ : ∃ nv, ne v = nv := ⟨_, rfl⟩
            rw [hnv] at c2
            have HPN := Hid.mk' hpn
            have HWS := Hid.mk' hws
            have HNV := Hid.mk' hnv
            have HH := Hid.mk' hn
            clear S' hrp hcp hpn hws hnv hn1 hn1e hn hvf hp0
            go_upto_region 17 with fail
            by_cases hed : nv < ws.length
            · have hed' : decide ((nv : Int) < (ws.length : Int)) = true := by simp; omega
              go_quiet (fail)
              have S1 := S.quiet ((Keeps.refl (fun _ => False) wr).drewN nq)
              clear S c0 c1 c2 hvc hvo
              generalize wr.drewN nq = w3 at *
              rename_i K1 hK1 K0 hK0
              refine hK0 _ _ (wp_cond_true rfl ?_)
              refine edge_wp (n1 := n1) (gk := gk) S1 hN hA hT hvis HPN.out hnp hvst hvN HN1.out HWS.out HNV.out HH.out hed _ _ _ _ _ _ _ _ _ _ _ _ _ _ _ _ _ _ _ _ _ _ _ _ _ _ _ _ _ _ _ _ _ _ _ _ _ _ _ _ _ _ _ _ _ _ _ _ _ _ _ _ _ _ _ _ _ _ _ _ _ _ _ _ _ _ _ _ _ _ _ _ _ _ _ _ _ _ _ _ _ _ _ _ _ _ _ _ _ _ _ _ _ _ _ _ _ _ _ _ _ _ _ _ _ _ _ _ _ _ _ _ _ _ _ _ _ _ _ _ _ _ _ _ _ _ _ _ _ _ _ _ _ _ _ _ _ _ _ _ _ _ _ _ _ _ _ _ _ _ _ _ _ _ _ _ _ _ ?_
              clear hK0 hK1
              intro u15 u66 u67 u68 u69 u70 u71 u72 u73 u74 u75 u76 u77 u78 u79 u80 u81 u82 u83 u84 u85 u86 u87 u88 u89 u90 u91 u92 u93 u94 u95 u96 u97 u98 u99 u100 u101 u102 u103 u104 u105 u106 wx ⟨vis', ix', lw', cm', os', ne', st', pn', vst', vpt', hm', hT', hv', S'⟩
              go_wp2
              go_roundg (mu (adjF A) N (fn ix') ne' pn')
              case measure => exact hm'
              case rel => exact ⟨f, vis', ix', lw', cm', os', ne', st', pn', vst', vpt', rfl, rfl, hT', hv', S'⟩
            · have hed' : decide ((nv : Int) < (ws.length : Int)) = false := by simp; omega
              go_quiet (fail)
              have S1 := S.quiet ((Keeps.refl (fun _ => False) wr).drewN nq)
              clear S c0 c1 c2 hvc hvo
              generalize wr.drewN nq = w3 at *
              rename_i K1 hK1 K0 hK0
              refine hK0 _ _ (wp_cond_false rfl (wp_skip (hK1 _ _ ?_)))
              refine done_wp (n1 := n1) (gk := gk) S1 hN hA hT hvis HPN.out hnp hvst hvN HN1.out HWS.out HNV.out HH.out hed _ _ _ _ _ _ _ _ _ _ _ _ _ _ _ _ _ _ _ _ _ _ _ _ _ _ _ _ _ _ _ _ _ _ _ _ _ _ _ _ _ _ _ _ _ _ _ _ _ _ _ _ _ _ _ _ _ _ _ _ _ _ _ _ _ _ _ _ _ _ _ _ _ _ _ _ _ _ _ _ _ _ _ _ _ _ _ _ _ _ _ _ _ _ _ _ _ _ _ _ _ _ _ _ _ _ _ _ _ _ _ _ _ _ _ _ _ _ _ _ _ _ _ _ _ _ _ _ _ _ _ _ _ _ _ _ _ _ _ _ _ _ _ _ _ _ _ _ _ _ _ _ _ _ _ _ _ _ _ _ ?_
              clear hK0 hK1
              intro u16 u17 u107 u108 u109 u110 u111 u112 u113 u114 u115 u116 u117 u118 u119 u120 u121 u122 u123 u124 u125 u126 u127 u128 u129 u130 u131 u132 u133 u134 u135 u136 u137 u138 u139 u140 u141 u142 u143 u144 u145 u146 u147 u148 u149 u150 u151 u152 u153 u154 u155 u156 u157 u158 u159 u160 u161 u162 u163 u164 u165 f' wx ⟨vis', ix', lw', cm', os', ne', st', pn', vst', vpt', hm', hT', hv', S'⟩
              constructor
              all_goals
                go_wp2
                go_roundg (mu (adjF A) N (fn ix') ne' pn')
                case measure => exact hm'
                case rel => exact ⟨f', vis', ix', lw', cm', os', ne', st', pn', vst', vpt', rfl, rfl, hT', hv', S'⟩
      · have hne : ((xk : Int) != 0) = true := by simp; omega
        have hv1 : ∀ r, r < k + 1 → ix.getD r 0 ≠ 0 := fun r hr => by
          by_cases e : r = k
          · subst e; rw [HXK.out]; exact h0
          · exact hvis r (by omega)
        have HV := Hid.mk' hv1
        clear hv1 hvis
        go_wp2
        go_roundw
        case rel => exact ⟨k + 1, f, vis, ix, lw, cm, os, ne, vst, vpt, by omega, by go_num, rfl, hT, HV.out, S⟩
        case measure => simp [intOf]; omega
    · obtain rfl : k = N := by omega
      have hdn : ∀ u v, u < k → v < k → Way (Nb A) u v → Way (Nb A) v u → cm.getD u 0 = cm.getD v 0 := fun u v hu hv h1 h2 => hT.done (fun x hx => hvis x hx) hu hv h1 h2
      have hlc := hT.lc
      have HDN := Hid.mk' hdn
      have HLC := Hid.mk' hlc
      have S3 : Sep w0 wr (Res.row 3 1 (.slice (some ⟨gc, 0, none⟩) k k) k (nats cm) :: Res.adj ga k vs A :: rs) := by
        unfold TarL at S
        exact S.tail.tail.tail.tail.tail.tail.tail.tail.tail.tail.tail
      clear hdn hlc S hvis hT
      go_wp2
      go_ret
      exact ⟨gc, cm, rfl, HLC.out, S3, HDN.out⟩
end
end Go.Proofs.Ybulkcdco
