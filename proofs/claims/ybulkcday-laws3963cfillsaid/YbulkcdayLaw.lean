import Derived.Test.YbulkcdayLw
import Derived.Test.YbulkcdayOut
import Derived.Test.YbulkcdayC3
namespace Go.Proofs.Ybulkcday
open Go.RowKit

set_option maxHeartbeats 6400000 in
set_option maxRecDepth 1000000 in
theorem law_any (w : World) (a0 : Addr) (len0 cap0 : Nat) (a1 : Nat) (inn : Bool) (h1 : a1 < 256) (h2 : 2 ≤ len0)
   (hz : ∀ i, i < len0 → ∃ z : Nat, z < 256 ∧ w.cell? (a0.add i) = some (.int .u8 z)) :
    Calls Yba.prog 4 #[.slice (some a0) len0 cap0, .int .u8 a1, .bool inn] w fun e w' => e = .returned (.bool true) ∧ Keeps (fun _ => False) w w' := by
  have b1 : decide ((len0 : Int) < 2) = false := by simp; omega
  go_enter Yba.func4, Yba.ntmps4
  go_upto_if 36 with fail
  go_cut [7] from 35 to 36 (fun s wc => ∃ n : Nat, 2 ≤ n ∧ n ≤ 100 ∧ n ≤ len0 ∧ s = .int .i64 n ∧ wc = w)
  case first =>
    by_cases h : 100 < len0
    · have b2 : decide ((100 : Int) < (len0 : Int)) = true := by simp; omega
      go_wp2
      go_meet
      case rel => exact ⟨100, by omega, by omega, by omega, rfl, rfl⟩
    · have b2 : decide ((100 : Int) < (len0 : Int)) = false := by simp; omega
      go_wp2
      go_meet
      case rel => exact ⟨len0, by omega, by omega, by omega, rfl, rfl⟩
  case rest =>
    obtain ⟨n, hn2, hn100, hnl, rfl, hwc⟩ := hcut
    have hwc := hwc.symm
    subst hwc
    have hmod : (a1 : Int) % (n : Int) = ((a1 % n : Nat) : Int) := by simp
    have hiN : a1 % n < n := Nat.mod_lt _ (by omega)
    have hmk1 := run_make_row' (P := Yba.prog) 27 24 (.pointer none) 8 Yba.underlying27 Yba.info24 rfl .i64 .i64 n (by omega) (by omega)
    have hmk2 := run_make_row' (P := Yba.prog) 26 3 (.int .i64 0) 8 Yba.underlying26 Yba.info3 rfl .i64 .i64 n (by omega) (by omega)
    generalize hiE : a1 % n = i at *
    clear hiE b1
    go_wp2
    clear hmk1 hmk2 hmod
    have hB0 : Base w _ inn n 0 w.heap.size (w.heap.size + 1) (w.heap.size + 1 + 1) [] [] _ _ _ _ := base_start w inn n (by omega)
    refine outer_loop w inn n w.heap.size (w.heap.size + 1) (w.heap.size + 1 + 1) a0 len0 cap0 hn2 hn100 hnl hz _ _ _ _ _ _ _ _ _ _ _ _ _ _ _ _ _ _ _ _ _ _ _ _ _ _ _ _ _ _ _ _ _ _ _ _ _ _ _ _ _ _ _ _ _ _ _ _ _ _ _ _ _ _ _ _ _ _ _ _ _ _ _ _ _ _ _ _ _ _ _ _ _ _ _ _ _ _ _ _ _ _ _ _ _ _ _ _ _ _ _ _ _ _ _ _ _ _ _ _ _ _ _ _ _ _ _ _ _ _ _ _ _ _ _ _ _ _ _ _ _ _ _ _ _ _ _ _ _ _ _ _ _ _ _ _ _ _ _ _ _ _ _ _ _ _ _ _ _ _ _ _ _ _ _ _ _ _ _ _ _ _ _ _ _ _ _ _ _ _ _ _ _ _ _ _ _ _ _ _ _ _ _ _ _ _ _ _ _ _ _ _ _ _ _ _ _ _ _ _ _ _ _ _ _ _ _ _ _ _ _ _ _ _ _ _ _ _ _ _ _ _ _ _ _ _ _ _ _ _ _ _ _ _ _ _ _ _ _ _ _ _ _ _ _ _ _ _ _ _ _ _ _ _ _ _ _ _ _ _ _ _ _ _ _ _ _ _ _ _ _ _ _ _ _ _ _ _ _ _ _ _ _ _ _ _ _ _ _ _ _ _ _ _ _ _ _ _ _ _ _ _ _ _ _ _ _ _ _ _ _ _ _ _ _ _ _ _ _ _ _ _ _ _ _ _ _ _ _ _ _ _ _ _ _ _ _ _ _ _ _ _ _ _ _ _ _ _ _ _ _ _ _ _ _ _ _ _ _ _ _ _ _ _ _ _ _ _ _ _ _ _ _ _ _ _ _ _ _ _ _ _ _ _ _ _ _ _ _ _ _ _ _ _ _ _ _ _ _ _ _ _ _ _ _ _ _ _ _ _ _ _ _ _ _ _ _ _ _ _ _ _ _ _ _ _ _ _ _ hB0 _ ?_
    clear hB0 hz
    intro u12 u13 u14 u16 u17 u18 u19 u20 u21 u22 u47 u48 u49 u50 u51 u52 u53 u54 u55 u56 u57 u58 u59 u60 u61 u62 u63 u64 u65 u66 u67 u68 u69 u70 u71 u72 u73 u74 u75 u76 u77 u78 u79 u80 u81 u82 u83 u84 u85 u86 u87 u88 u89 u90 u91 u92 u93 u94 u95 u96 u97 u98 u99 u100 u101 u102 u103 u104 u105 u106 u107 u108 u109 u110 u111 u112 u113 u114 u115 u116 u117 u118 u119 u120 u121 u122 u123 u124 u125 u126 u127 u128 u129 u130 u131 u132 u133 u134 u135 u136 u137 u138 u139 u140 u141 u142 u143 u144 u145 u146 u147 u148 u149 u150 u151 u152 u153 u154 u155 u156 u157 u158 u159 u160 u161 u162 u163 u164 u165 u166 u167 u168 u169 u170 u171 u172 u173 wr kids pks vt ve B
    conv => zeta
    obtain ⟨-, -, e2, ef⟩ := Rw.cells B.sep.p3.head
    have ef2 := ef 2
    clear ef
    obtain ⟨P, hPp, T, S⟩ := parent_done hn2 hn100 B
    have hptr := B.ptr
    have hkl := B.kl
    have hcnt := B.cnt
    clear B
    go_wp2_with fail
    generalize (wr.setCell ⟨w.heap.size, 2, none⟩ (.slice (some ⟨w.heap.size + 1, 0, none⟩) n n)) = w1 at *
    clear e2 ef2
    have hcl : (ivals (counts kids)).length = n := by rw [ivals_len]; simp [counts, hkl]
    have hown : w1.ownsRow 0 3 1 (.slice (some ⟨w.heap.size + 1 + 1, 0, none⟩) n n) n (ivals (counts kids)) := by have := S.head; simp only [Res.row] at this; rwa [hcl] at this
    refine (clone_any _ n (ivals (counts kids)) (ivals_one _) hown (by omega) (by omega)).mono ?_
    rintro r w2 ⟨gx, cx, rfl, hox, hcx, kx, hgx⟩
    have S2 : Sep w w2 (Res.row 3 (.slice (some ⟨gx, 0, none⟩) n cx) (ivals (counts kids)) :: Res.k P :: (kids.map Res.k ++ [Res.row 9 u12 (oks (allKeys P kids)), Res.row 24 u13 (allKids kids)])) :=
      S.tail.add (r := Res.row 3 (.slice (some ⟨gx, 0, none⟩) n cx) (ivals (counts kids))) (by show w2.ownsRow 0 3 1 _ _ _; rw [hcl]; exact hox) kx (fun b hb => by simp [Res.row, Value.ownBlock] at hb; omega)
    have hcsl : (counts kids).length = n := by simp [counts, hkl]
    have hcb : ∀ j, (counts kids).getD j 0 ≤ 33 := cnt_le hcnt
    clear S hown hox kx hgx w1 hcl
    generalize hcs : counts kids = cs at *
    have HCS := Hid.mk' hcs
    generalize hRE : (Res.k P :: (kids.map Res.k ++ [Res.row 9 u12 (oks (allKeys P kids)), Res.row 24 u13 (allKids kids)])) = RE at S2
    have HRE := Hid.mk' hRE
    have HKL := Hid.mk' hkl
    clear hcs hRE hkl
    obtain ⟨d0, f0⟩ := S2.cellC hcsl i hiN
    obtain ⟨ci, hci⟩ : ∃ ci, cs.getD i 0 = ci := ⟨_, rfl⟩
    have hcib := hcb i
    rw [hci] at d0 hcib
    have HCI := Hid.mk' hci
    clear hci
    have x0 : (i : Int) < (n : Int) := by omega
    have x1 : (0 : Int) ≤ (i : Int) := by omega
    have HCL := Hid.mk' hcsl
    clear hcsl
    go_upto_if 185 with fail
    go_cut [23, 24] from 181 to 280 (fun s23 s24 wc => ∃ nx cx : Nat, s23 = .slice (some ⟨gx, 0, none⟩) nx cx ∧ s24 = .int .i64 (((table cs i).1 : Nat) : Int) ∧ (table cs i).2.length = nx ∧ Sep w wc (Res.row 3 (.slice (some ⟨gx, 0, none⟩) nx cx) (ivals (table cs i).2) :: RE))
    case first =>
      by_cases hA : 31 < ci
      · have hd : decide ((31 : Int) < (ci : Int)) = true := by simp; omega
        go_wp2
        go_meet
        case rel => rw [tabA HCI.out hA]; exact ⟨n, cx, rfl, rfl, HCL.out, S2⟩
      have hdA : decide ((31 : Int) < (ci : Int)) = false := by simp; omega
      by_cases hL : 0 < i ∧ 31 < cs.getD (i - 1) 0
      · obtain ⟨a, ha⟩ : ∃ a, i = a + 1 := ⟨i - 1, by omega⟩
        have hsub : (i : Int) - 1 = (a : Int) := by omega
        have y0 : decide ((0 : Int) < (i : Int)) = true := by simp; omega
        have y1 : (a : Int) < (n : Int) := by omega
        obtain ⟨d1, f1⟩ := S2.cellC HCL.out a (by omega)
        obtain ⟨cl, hcl⟩ : ∃ cl, cs.getD a 0 = cl := ⟨_, rfl⟩
        have hclb := hcb a
        have hL2 : 31 < cl := by have := hL.2; rw [show i - 1 = a by omega, hcl] at this; exact this
        rw [hcl] at d1 hclb
        have HCl := Hid.mk' hcl
        have HA := Hid.mk' ha
        clear hcl ha hL
        have hdL : decide ((31 : Int) < (cl : Int)) = true := by simp; omega
        have hdec : (cl : Int) - 1 = ((cl - 1 : Nat) : Int) := by omega
        have hinc : (ci : Int) + 1 = ((ci + 1 : Nat) : Int) := by omega
        have S3 := S2.put HCL.out a (cl - 1)
        obtain ⟨d2, f2⟩ := S3.cellC (by rw [List.length_set]; exact HCL.out) i hiN
        rw [show (cs.set a (cl - 1)).getD i 0 = ci by rw [HA.out, getD_set_ne _ (by omega), ← HA.out]; exact HCI.out] at d2
        have S4 := S3.put (by rw [List.length_set]; exact HCL.out) i (ci + 1)
        generalize hg1 : cl - 1 = cl' at *
        generalize hg2 : ci + 1 = ci' at *
        have HG1 := Hid.mk' hg1
        have HG2 := Hid.mk' hg2
        clear hg1 hg2
        go_wp2
        go_meet
        case rel => rw [tabL HCI.out hA HA.out HCl.out hL2, HG1.out, HG2.out]; exact ⟨n, cx, rfl, rfl, by simp only [List.length_set]; exact HCL.out, S4⟩
      have hG : (decide ((0 : Int) < (i : Int)) = false ∧ decide (0 < i) = false) ∨ (∃ a cl : Nat, decide ((0 : Int) < (i : Int)) = true ∧ (i : Int) - 1 = (a : Int) ∧ (a : Int) < (n : Int) ∧ w2.cell? ⟨gx, a, none⟩ = some (.int .i64 (cl : Int)) ∧ w2.frozen? ⟨gx, a, none⟩ = false ∧ cl ≤ 33 ∧ decide ((31 : Int) < (cl : Int)) = false ∧ Hid (i = a + 1) ∧ Hid (cs.getD a 0 = cl)) := by
        by_cases h0 : 0 < i
        · right
          have hc := S2.cellC HCL.out (i - 1) (by omega)
          have hl : ¬ 31 < cs.getD (i - 1) 0 := fun h => hL ⟨h0, h⟩
          exact ⟨i - 1, cs.getD (i - 1) 0, by simp; omega, by omega, by omega, hc.1, hc.2, hcb _, decide_eq_false (by omega), Hid.mk' (by omega), Hid.mk' rfl⟩
        · left; exact ⟨by simp; omega, by simp; omega⟩
      have HL := Hid.mk' hL
      clear hL
      by_cases hin : i + 1 < n
      · have z0 : decide ((i : Int) + 1 < (n : Int)) = true := by simp; omega
        have z1 : (i : Int) + 1 < (n : Int) := by omega
        have z2 : (0 : Int) ≤ (i : Int) + 1 := by omega
        obtain ⟨d3, f3⟩ := S2.cellC HCL.out (i + 1) hin
        obtain ⟨cr, hcr⟩ : ∃ cr, cs.getD (i + 1) 0 = cr := ⟨_, rfl⟩
        have hcrb := hcb (i + 1)
        rw [hcr] at d3 hcrb
        have HCR := Hid.mk' hcr
        clear hcr
        by_cases hR : 31 < cr
        · have hdR : decide ((31 : Int) < (cr : Int)) = true := by simp; omega
          have hdec : (cr : Int) - 1 = ((cr - 1 : Nat) : Int) := by omega
          have hinc : (ci : Int) + 1 = ((ci + 1 : Nat) : Int) := by omega
          have S3 := S2.put HCL.out (i + 1) (cr - 1)
          obtain ⟨d2, f2⟩ := S3.cellC (by rw [List.length_set]; exact HCL.out) i hiN
          rw [show (cs.set (i + 1) (cr - 1)).getD i 0 = ci by rw [getD_set_ne _ (by omega)]; exact HCI.out] at d2
          have S4 := S3.put (by rw [List.length_set]; exact HCL.out) i (ci + 1)
          generalize hg1 : cr - 1 = cr' at *
          generalize hg2 : ci + 1 = ci' at *
          have HG1 := Hid.mk' hg1
          have HG2 := Hid.mk' hg2
          clear hg1 hg2
          rcases hG with ⟨y0, y0n⟩ | ⟨a, cl, y0, hsub, y1, d1, f1, hclb, hdL, HA, HCl⟩
          all_goals
            go_wp2
            go_meet
            case rel => rw [tabR HCI.out hA HL.out (by rw [HCL.out]; exact hin) HCR.out hR, HG1.out, HG2.out]; exact ⟨n, cx, rfl, rfl, by simp only [List.length_set]; exact HCL.out, S4⟩
        · have hdR : decide ((31 : Int) < (cr : Int)) = false := by simp; omega
          have hsum : (ci : Int) + 1 + (cr : Int) = ((ci + 1 + cr : Nat) : Int) := by omega
          have hsb : ci + 1 + cr ≤ 100 := by omega
          generalize hg1 : ci + 1 + cr = sm at *
          have HG1 := Hid.mk' hg1
          clear hg1
          rcases hG with ⟨y0, y0n⟩ | ⟨a, cl, y0, hsub, y1, d1, f1, hclb, hdL, HA, HCl⟩
          all_goals
            go_upto_region 54 with fail
            go_region
            have S3 := (S2.put HCL.out i sm).quiet ((Keeps.refl (fun _ => False) _).drew)
            generalize (w2.setCell ⟨gx, i, none⟩ (.int .i64 (sm : Int))).drew = w3 at *
            have hown : w3.ownsRow 0 3 1 (.slice (some ⟨gx, 0, none⟩) n cx) n (ivals (cs.set i sm)) := by have := S3.head; simp only [Res.row] at this; rwa [show (ivals (cs.set i sm)).length = n by rw [ivals_len, List.length_set]; exact HCL.out] at this
            have hdel := del13_any gx n cx (i + 1) (i + 2) (ivals (cs.set i sm)) w3 (ivals_one _) hown (by omega) (by omega) hcx
            rw [show ((i + 1 : Nat) : Int) = (i : Int) + 1 from rfl, show ((i + 2 : Nat) : Int) = (i : Int) + 2 from rfl] at hdel
            go_wp2_with fail
            refine hdel.mono ?_
            rintro r w4 ⟨rfl, ho4, k4⟩
            have S4 := S3.cut (by rw [List.length_set]; exact HCL.out) (by omega) (by omega) ho4 k4
            go_wp2
            go_meet
            case rel =>
              rw [tabM HCI.out hA HL.out (by rw [HCL.out]; exact hin) HCR.out hR, HG1.out]
              exact ⟨_, cx, rfl, rfl, by have := HCL.out; simp; omega, S4⟩
      · have z0 : decide ((i : Int) + 1 < (n : Int)) = false := by simp; omega
        rcases hG with ⟨y0, y0n⟩ | ⟨a, cl, y0, hsub, y1, d1, f1, hclb, hdL, HA, HCl⟩
        · exfalso; simp at y0; omega
        have hsum : (cl : Int) + 1 + (ci : Int) = ((cl + 1 + ci : Nat) : Int) := by omega
        have hsb : cl + 1 + ci ≤ 100 := by omega
        generalize hg1 : cl + 1 + ci = sm at *
        have HG1 := Hid.mk' hg1
        clear hg1
        go_upto_region 56 with fail
        go_region
        have S3 := (S2.put HCL.out a sm).quiet ((Keeps.refl (fun _ => False) _).drew)
        generalize (w2.setCell ⟨gx, a, none⟩ (.int .i64 (sm : Int))).drew = w3 at *
        have hown : w3.ownsRow 0 3 1 (.slice (some ⟨gx, 0, none⟩) n cx) n (ivals (cs.set a sm)) := by have := S3.head; simp only [Res.row] at this; rwa [show (ivals (cs.set a sm)).length = n by rw [ivals_len, List.length_set]; exact HCL.out] at this
        have hdel := del13_any gx n cx i (i + 1) (ivals (cs.set a sm)) w3 (ivals_one _) hown (by omega) (by omega) hcx
        rw [show ((i + 1 : Nat) : Int) = (i : Int) + 1 from rfl] at hdel
        go_wp2_with fail
        refine hdel.mono ?_
        rintro r w4 ⟨rfl, ho4, k4⟩
        have S4 := S3.cut (by rw [List.length_set]; exact HCL.out) (by omega) (by omega) ho4 k4
        go_wp2
        go_meet
        case rel =>
          rw [tabN HCI.out hA HL.out (by rw [HCL.out]; exact hin) HA.out HCl.out, HG1.out]
          exact ⟨_, cx, rfl, rfl, by have := HCL.out; simp; omega, S4⟩
    case rest =>
      obtain ⟨nx, cx', rfl, rfl, hnx, S5⟩ := hcut
      clear S2 d0 f0 hcib HCI hcb hcnt hcx x0
      rw [← HRE.out] at S5
      have S6 : Sep w wc (Res.k P :: (kids.map Res.k ++ [Res.row 9 u12 (oks (allKeys P kids)), Res.row 24 u13 (allKids kids), Res.row 3 (.slice (some ⟨gx, 0, none⟩) nx cx') (ivals (table cs i).2)])) := by
        have := S5.perm (List.perm_append_singleton _ _).symm
        simpa using this
      clear S5 HRE
      have hkl := HKL.out
      have hfill := fill_all T S6 i (by omega) (by omega)
      unfold K.ptr at hfill
      rw [hPp, HCS.out] at hfill
      clear hkl HKL HCS S6
      generalize (table cs i).1 = t1 at *
      generalize (table cs i).2 = t2 at *
      clear HCL
      have HNX := Hid.mk' hnx
      clear hnx
      go_wp2_with fail
      refine hfill.mono ?_
      clear hfill
      rintro r w3 ⟨rfl, P', kids', F⟩
      have T' := F.tree
      have S7 := F.sep
      have hp' : P'.p = w.heap.size := F.p.trans hPp
      have HK' := Hid.mk' F.keys
      have HG' := Hid.mk' F.gs
      have hc' := F.cnt
      have hfew := T'.few
      have hnk : nx = kids'.length := by rw [← HNX.out, ← hc']; simp [counts]
      have hnx1 : nx ≤ 100 := by omega
      have HNK := Hid.mk' hnk
      obtain ⟨np, hnp⟩ : ∃ np, P'.ks.length = np := ⟨_, rfl⟩
      have HNP := Hid.mk' hnp
      have hnn : nx = np + 1 := by have := T'.len; omega
      have hsubn : (nx : Int) - 1 = (np : Int) := by omega
      have HNN := Hid.mk' hnn
      have P'ok : P'.ok w3 := S7.head
      have hgl : P'.gs.length = nx := by rw [T'.gs, List.length_map]; exact hnk.symm
      obtain ⟨gk, ck, hvk, -, -, -, -, -⟩ := own_some P'ok.kid (by omega)
      rw [hgl] at hvk
      obtain ⟨-, -, p2, -⟩ := K.cells P'ok
      rw [hp', hvk] at p2
      have hcntq : ∀ nq, Calls Yba.prog 15 #[.pointer (some ⟨w.heap.size, 0, none⟩)] (w3.drewN nq) fun r w' => r = .returned (.int .i64 np) ∧ w' = w3.drewN nq := fun nq => by
        have := count_k (K.keepF P'ok ((Keeps.refl _ w3).drewN nq)); rw [HNP.out] at this; unfold K.ptr at this; rw [hp'] at this; exact this
      clear F hPp hnk hnp hnn hgl hfew hiN x1
      go_upto_region 62 with fail
      go_quiet ((go_at_call 15; exact Calls.quiet_of_same (hcntq _)))
      have S8 := S7.quiet ((Keeps.refl (fun _ => False) w3).drewN nq)
      clear S7 P'ok p2 hcntq
      generalize w3.drewN nq = w4 at *
      go_upto_region 64 with fail
      go_cut [325] from 306 to 325 (fun s wc => s = .bool false ∧ Sep w wc (Res.k P' :: (kids'.map Res.k ++ [Res.row 9 u12 (oks (allKeys P kids)), Res.row 24 u13 (allKids kids), Res.row 3 (.slice (some ⟨gx, 0, none⟩) nx cx') (ivals t2)])))
      case first =>
        have P'ok : P'.ok w4 := S8.head
        obtain ⟨p1, p0, p2, -⟩ := K.cells P'ok
        rw [hp', HNP.out] at p1
        rw [hp'] at p0
        have hcntq : ∀ nq, Calls Yba.prog 15 #[.pointer (some ⟨w.heap.size, 0, none⟩)] (w4.drewN nq) fun r w' => r = .returned (.int .i64 np) ∧ w' = w4.drewN nq := fun nq => by
          have := count_k (K.keepF P'ok ((Keeps.refl _ w4).drewN nq)); rw [HNP.out] at this; unfold K.ptr at this; rw [hp'] at this; exact this
        clear p2
        by_cases h0 : 0 < np
        · have d2 : w4.cell? ⟨P'.ge, np - 1, none⟩ = some (.int .i64 (P'.ks.flatten.length : Int)) := by
            have hkl := HNP.out
            have := P'ok.nd.ens.cellAt (np - 1) (by omega)
            rw [this, endsV_get P'.ks (np - 1) (by omega), off_all P'.ks (by omega)]
          have hTb := P'ok.tlen
          generalize P'.ks.flatten.length = TT at *
          have hnpb : np ≤ 100 := by have := HNN.out; omega
          have b3 : decide ((0 : Int) < (np : Int)) = true := by simp; omega
          have b3n : decide (0 < np) = true := by simp; omega
          have b4 : (0 : Int) ≤ (np : Int) - 1 := by omega
          have b5 : (np : Int) - 1 < (np : Int) := by omega
          have b6 : ((np : Int) - 1).toNat = np - 1 := by omega
          clear P'ok hsubn
          go_quiet ((go_at_call 15; exact Calls.quiet_of_same (hcntq _)))
          have S9 := S8.quiet ((Keeps.refl (fun _ => False) w4).drewN nq)
          go_wp2
          go_meet
          case rel => exact ⟨rfl, S9⟩
        · have b3 : decide ((0 : Int) < (np : Int)) = false := by simp; omega
          have b3n : decide (0 < np) = false := by simp; omega
          clear P'ok hsubn
          go_quiet ((go_at_call 15; exact Calls.quiet_of_same (hcntq _)))
          have S9 := S8.quiet ((Keeps.refl (fun _ => False) w4).drewN nq)
          go_wp2
          go_meet
          case rel => exact ⟨rfl, S9⟩
      case rest =>
        obtain ⟨rfl, S9⟩ := hcut
        clear S8
        obtain ⟨-, -, p2, -⟩ := K.cells (show P'.ok wc from S9.head)
        rw [hp', hvk] at p2
        go_wp2
        clear p2
        have S10 := (S9.add (r := Res.row 24 (.slice none 0 0) []) (World.ownsRow_nil _ _ _ _) (Keeps.refl _ _) (fun b hb => by simp [Res.row, Value.ownBlock] at hb)).add (r := Res.row 9 (.slice none 0 0) []) (World.ownsRow_nil _ _ _ _) (Keeps.refl _ _) (fun b hb => by simp [Res.row, Value.ownBlock] at hb)
        rw [← hp']
        refine chk3_loop w inn P' kids' nx gk ck gx cx' hvk HNK.out T' _ (by simp) (fun c hc => by simp; right; left; exact ⟨c, hc, rfl⟩) (by rw [hc']; simp) _ _ _ _ _ _ _ _ _ _ _ _ _ _ _ _ _ _ _ _ _ _ _ _ _ _ _ _ _ _ _ _ _ _ _ _ _ _ _ _ _ _ _ _ _ _ _ _ _ _ _ _ _ _ _ _ _ _ _ _ _ _ _ _ _ _ _ _ _ _ _ _ _ _ _ _ _ _ _ _ _ _ _ _ _ _ _ _ _ _ _ _ _ _ _ _ _ _ _ _ _ _ _ _ _ _ _ _ _ _ _ _ _ _ _ _ _ _ _ _ _ _ _ _ _ _ _ _ _ _ _ _ _ _ _ _ _ _ _ _ _ _ _ _ _ _ _ _ _ _ _ _ _ _ _ _ _ _ _ _ _ _ _ _ _ _ _ _ _ _ _ _ _ _ _ _ _ _ _ _ _ _ _ _ _ _ _ _ _ _ _ _ _ _ _ _ _ _ _ _ _ _ _ _ _ _ _ _ _ _ _ _ _ _ _ _ _ _ _ _ _ _ _ _ _ _ _ _ _ _ _ _ _ _ _ _ _ _ _ _ _ _ _ _ _ _ _ _ _ _ _ _ _ _ _ _ _ _ _ _ _ _ _ _ _ _ _ _ _ _ _ _ _ _ _ _ _ _ _ _ _ _ _ _ _ _ _ _ _ _ _ _ _ _ _ _ _ _ _ _ _ _ _ _ _ _ _ _ _ _ _ _ _ _ _ _ _ _ _ _ _ _ _ _ _ _ _ _ _ _ _ _ _ _ _ _ _ _ _ _ _ _ _ _ _ _ _ _ _ _ _ _ _ _ _ _ _ _ _ _ _ _ _ _ _ _ _ _ _ _ _ _ _ _ _ _ _ _ _ _ _ _ _ _ _ _ _ _ _ _ _ _ _ _ _ _ _ _ _ _ _ _ _ _ _ _ _ _ _ _ _ _ _ _ _ _ _ _ _ _ _ _ _ _ _ _ _ _ _ _ _ S10 _ ?_
        clear S10 S9 hvk hp' hsubn T HNN HNP HNK HNX hc'
        intro y6 y26 y27 y28 y29 y30 y332 y333 y334 y335 y336 y337 y338 y339 y340 y341 y342 y343 y344 y345 y346 y347 y348 y349 y350 y351 y352 y353 y354 y355 y356 y357 y358 y359 y360 y361 y362 y363 y364 y365 y366 y367 y368 y369 y370 y371 y372 y373 y374 y375 y376 y377 y378 y379 y380 y381 y382 y383 y384 y385 y386 y387 y388 y389 y390 y391 y392 y393 y394 y395 y396 y397 y398 y399 y400 y401 y402 y403 y404 y405 y406 y407 y408 y409 y410 y411 y412 y413 y414 y415 y416 y417 y418 y419 y420 y421 y422 y423 y424 y425 y426 y427 y428 y429 wE S11
        conv => zeta
        rw [HK'.out, HG'.out] at S11
        have hkl1 := T'.keys_len
        have hkl2 := T'.kids_len
        rw [HK'.out] at hkl1
        rw [HG'.out] at hkl2
        have hoE : oks (allKeys P kids) = ((allKeys P kids).map unS).map Value.string := by simp [oks]
        have ho1 : wE.ownsRow 0 9 1 y26 (allKeys P kids).length (((allKeys P kids).map unS).map Value.string) := by
          have := S11.head; simp only [Res.row] at this; rw [oks_length, hoE] at this; exact this
        have ho2 : wE.ownsRow 0 9 1 u12 (allKeys P kids).length (((allKeys P kids).map unS).map Value.string) := by
          have := S11.all (Res.row 9 u12 (oks (allKeys P kids))) (by simp); simp only [Res.row] at this; rw [oks_length, hoE] at this; exact this
        have ho3 : wE.ownsRow 0 24 1 y27 (allKids kids).length (allKids kids) := S11.tail.head
        have ho4 : wE.ownsRow 0 24 1 u13 (allKids kids).length (allKids kids) := S11.all (Res.row 24 u13 (allKids kids)) (by simp)
        have kE := S11.base
        clear S11 hoE HK' HG' T'
        go_wp2_with fail
        refine (eqs_any y26 u12 _ _ (by omega) ho1 ho2).mono ?_
        rintro r wF ⟨rfl, kF⟩
        have kG := kE.trans kF (fun _ _ h => h)
        go_wp2_with fail
        refine (eqk_any y27 u13 _ _ hptr (by omega) (kF.own ho3 (fun _ _ h => h)) (kF.own ho4 (fun _ _ h => h))).mono ?_
        rintro r wG ⟨rfl, kH⟩
        have kI := kG.trans kH (fun _ _ h => h)
        go_wp2
        go_ret
        exact ⟨rfl, kI⟩

end Go.Proofs.Ybulkcday
