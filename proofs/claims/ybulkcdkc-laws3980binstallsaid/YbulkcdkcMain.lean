import Derived.Test.YbulkcdkcLa3
import Derived.Test.YbulkcdkcLa2
import Derived.Test.YbulkcdkcLa1
import Derived.Test.YbulkcdkcLa7
import Derived.Laws.StructEq
import Derived.Test.YbulkcdkcFac
import Derived.Test.YbulkcdkcNew
namespace Go.Proofs.Ybulkcdkc
open Go.RowKit

theorem Sep.poolNil {w0 w : World} {rs : List Res} (S : Sep w0 w rs) : Sep w0 w (Res.pool [] :: rs) := S.add (r := Res.pool []) (fun p hp => by cases hp) (Keeps.refl _ _) (fun b ⟨p, hp, _⟩ => by cases hp)

set_option maxHeartbeats 3200000 in
set_option maxRecDepth 1000000 in
theorem law_any (W : World) (own vmask mp d0 ll lc pl pc sl sc : Nat) (la pa sa : Option Addr) (hown : own < 256) (hll : ll ≤ 300) (hsl : sl ≤ 300) (ms : List Nat) (hmk : MkAt W la ms) (hml : ms.length = ll) (vals : List Nat) (hpv : PrAt W pa vals) (hpl' : vals.length = pl) (sts : List (Nat × Nat × Nat × Nat)) (hst : StAt W sa sts) (hstl : sts.length = sl) :
    Calls Yba.prog 3 #[.int .u8 own, .int .u8 vmask, .slice la ll lc, .int .u64 mp, .slice pa pl pc, .slice sa sl sc, .int .u64 d0] W fun r w' => r = .returned (.bool true) ∧ Keeps (fun _ => False) W w' := by
  have g1 : decide ((300 : Int) < (ll : Int)) = false := by simp; omega
  have g2 : decide ((300 : Int) < (sl : Int)) = false := by simp; omega
  obtain ⟨b, hb⟩ : ∃ b, W.heap.size = b := ⟨_, rfl⟩
  have S0 : Sep W W [] := Sep.nil (Keeps.refl _ W)
  have S1 := S0.blkAt #[.slice pa pl pc] 24 hb
  clear S0
  go_enter Yba.func3, Yba.ntmps3
  go_wp2_with fail
  clear hb
  generalize (W.alloc (.cells #[.slice pa pl pc] 24)) = w1 at *
  refine (name_any w1 own hown).mono ?_
  rintro r w2 ⟨rfl, k2⟩
  have S2 := S1.quiet k2
  obtain ⟨b2, hb2⟩ : ∃ b2, w2.heap.size = b2 := ⟨_, rfl⟩
  obtain ⟨me, hme⟩ : ∃ me, nmB (own % 6) = me := ⟨_, rfl⟩
  rw [hme]
  have S3 := S2.blkAt #[.string me] 9 hb2
  clear S1 S2 k2
  go_wp2_with fail
  clear hb2
  refine (names_any S3 vmask).mono ?_
  rintro r w4 ⟨vvm, rfl, S4⟩
  have S5 := (Sep.poolAdd (P := []) (S4.poolNil.p2)).nilRow 31 2
  clear S3 S4
  go_wp2
  refine law1 S5 hmk hml hll _ _ _ _ _ _ _ _ _ _ _ _ _ _ _ _ _ _ _ _ _ _ _ _ _ _ _ _ _ _ _ _ _ _ _ _ _ _ _ _ _ _ _ _ _ _ _ _ _ _ _ _ _ _ _ _ _ _ _ _ _ _ _ _ _ _ _ _ _ _ _ _ _ _ _ _ _ _ _ _ _ _ _ _ _ _ _ _ _ _ _ _ _ _ _ _ _ _ _ _ _ _ _ _ _ _ _ _ _ _ _ _ _ _ _ _ _ _ _ _ _ _ _ _ _ _ _ _ _ _ _ _ _ _ _ _ _ _ _ _ _ _ _ _ _ _ _ _ _ _ _ _ _ _ _ _ _ _ _ _ _ _ _ _ _ _ _ _ _ _ _ _ _ _ _ _ _ _ _ _ _ _ _ _ _ _ _ _ _ _ _ _ _ _ _ _ _ _ _ _ _ _ _ _ _ _ _ _ _ _ _ _ _ _ _ _ _ _ _ _ _ _ _ _ _ _ _ _ _ _ _ _ _ _ _ _ _ _ _ _ _ _ _ _ _ _ _ _ _ _ _ _ _ _ _ _ _ _ _ _ _ _ _ _ _ _ _ _ _ _ _ _ _ _ _ _ _ _ _ _ _ _ _ _ _ _ _ _ _ _ _ _ _ _ _ _ _ _ _ _ _ _ _ _ _ _ _ _ _ _ _ _ _ _ _ _ _ _ _ _ _ _ _ _ _ _ _ _ _ _ _ _ _ _ _ _ _ _ _ _ _ _ _ _ _ _ _ ?_
  intro u17 u19 u61 u62 u63 u64 u65 u66 u67 u68 u69 u70 u71 w5 ps P1 ⟨hP1, hpl, hps, S6⟩
  clear S5
  have c15 : w5.cell? ⟨b2, 0, none⟩ = some (.string me) := cell_of_row w5 b2 0 _ 9 (0, 0) S6.p3.head
  obtain ⟨xa, xc, hx⟩ := own_sliceB (show w5.ownsRow 0 31 2 u17 ll _ from S6.head)
  subst hx
  have hRv : Rd w5 vvm (nl vmask 6) := (show ∀ p ∈ P1, Rd w5 p.1 p.2 from S6.tail.head) _ (hP1 _ List.mem_cons_self)
  obtain ⟨ya, yc, hy⟩ := own_sliceB hRv
  obtain ⟨yn, hyn⟩ : ∃ yn, (nl vmask 6).length = yn := ⟨_, rfl⟩
  rw [hyn] at hy
  subst hy
  go_wp2_with fail
  obtain ⟨bmm, hbmm⟩ : ∃ bmm, w5.heap.size = bmm := ⟨_, rfl⟩
  have S7 := S6.blkAt #[.string me, .int .u64 0, .int .i64 0, .int .i64 0, .int .i64 0, .nilIface, .bool false, .int .u64 1, .slice ya yn yc, .slice xa ll xc, .bool false, .bool false, .slice none 0 0, .int .u64 0, .pointer none, .pointer none, .slice none 0 0, .int .u64 0, .bool false, .int .u64 0, .int .u64 0, .pointer none, .map none, .int .u64 mp, .slice none 0 0, .map none, .slice none 0 0, .string ⟨#[]⟩, .int .i64 0, .int .i64 0, .int .i64 0, .bool false, .map none, .pointer none, .pointer none] 49 hbmm
  rw [hbmm]
  clear c15 S6 hRv hbmm
  generalize (w5.alloc (.cells #[.string me, .int .u64 0, .int .i64 0, .int .i64 0, .int .i64 0, .nilIface, .bool false, .int .u64 1, .slice ya yn yc, .slice xa ll xc, .bool false, .bool false, .slice none 0 0, .int .u64 0, .pointer none, .pointer none, .slice none 0 0, .int .u64 0, .bool false, .int .u64 0, .int .u64 0, .pointer none, .map none, .int .u64 mp, .slice none 0 0, .map none, .slice none 0 0, .string ⟨#[]⟩, .int .i64 0, .int .i64 0, .int .i64 0, .bool false, .map none, .pointer none, .pointer none] 49)) = w6 at *
  refine (new_any S7 bmm).mono ?_
  rintro r w7 ⟨b7, rfl, S8⟩
  clear S7
  obtain ⟨bco, hbco⟩ : ∃ x, b7 + 1 + 1 + 1 + 1 + 1 + 1 = x := ⟨_, rfl⟩
  obtain ⟨cs, hcs⟩ : ∃ x, coCells bmm b7 = x := ⟨_, rfl⟩
  obtain ⟨bB, hbB⟩ : ∃ x, b7 + 1 = x := ⟨_, rfl⟩
  have q9 : cs[9]? = some (.map (some bB)) := by rw [← hcs, ← hbB]; rfl
  have q0 : cs[0]? = some (.pointer (some ⟨bmm, 0, none⟩)) := by rw [← hcs]; rfl
  have q12 : cs[12]? = some (.slice none 0 0) := by rw [← hcs]; rfl
  have qs : cs.size = 23 := by rw [← hcs]; rfl
  rw [hbco]
  rw [hbco, hcs, hbB] at S8
  clear hbco hcs hbB
  obtain ⟨mc, hmc⟩ : ∃ x : Array Value, #[.string me, .int .u64 0, .int .i64 0, .int .i64 0, .int .i64 0, .nilIface, .bool false, .int .u64 1, .slice ya yn yc, .slice xa ll xc, .bool false, .bool false, .slice none 0 0, .int .u64 0, .pointer none, .pointer none, .slice none 0 0, .int .u64 0, .bool false, .int .u64 0, .int .u64 0, .pointer none, .map none, .int .u64 mp, .slice none 0 0, .map none, .slice none 0 0, .string ⟨#[]⟩, .int .i64 0, .int .i64 0, .int .i64 0, .bool false, .map none, .pointer none, .pointer none] = x := ⟨_, rfl⟩
  have m0 : mc[0]? = some (.string me) := by rw [← hmc]; rfl
  have m7 : mc[7]? = some (.int .u64 1) := by rw [← hmc]; rfl
  have m8 : mc[8]? = some (.slice ya yn yc) := by rw [← hmc]; rfl
  have m9 : mc[9]? = some (.slice xa ll xc) := by rw [← hmc]; rfl
  have m23 : mc[23]? = some (.int .u64 mp) := by rw [← hmc]; rfl
  rw [hmc] at S8
  clear hmc
  have S9 := S8.pp7.p3.p3
  clear S8
  go_wp2
  refine law2 S9 q9 hpv hpl' _ _ _ _ _ _ _ _ _ _ _ _ _ _ _ _ _ _ _ _ _ _ _ _ _ _ _ _ _ _ _ _ _ _ _ _ _ _ _ _ _ _ _ _ _ _ _ _ _ _ _ _ _ _ _ _ _ _ _ _ _ _ _ _ _ _ _ _ _ _ _ _ _ _ _ _ _ _ _ _ _ _ _ _ _ _ _ _ _ _ _ _ _ _ _ _ _ _ _ _ _ _ _ _ _ _ _ _ _ _ _ _ _ _ _ _ _ _ _ _ _ _ _ _ _ _ _ _ _ _ _ _ _ _ _ _ _ _ _ _ _ _ _ _ _ _ _ _ _ _ _ _ _ _ _ _ _ _ _ _ _ _ _ _ _ _ _ _ _ _ _ _ _ _ _ _ _ _ _ _ _ _ _ _ _ _ _ _ _ _ _ _ _ _ _ _ _ _ _ _ _ _ _ _ _ _ _ _ _ _ _ _ _ _ _ _ _ _ _ _ _ _ _ _ _ _ _ _ _ _ _ _ _ _ _ _ _ _ _ _ _ _ _ _ _ _ _ _ _ _ _ _ _ _ _ _ _ _ _ _ _ _ _ _ _ _ _ _ _ _ _ _ _ _ _ _ _ _ _ _ _ _ _ _ _ _ _ _ _ _ _ _ _ _ _ _ _ _ _ _ _ _ _ _ _ _ _ _ _ _ _ _ _ _ _ _ _ _ _ _ _ _ _ _ _ _ _ _ _ _ _ _ _ _ _ _ _ _ _ _ _ _ _ _ _ _ _ _ ?_
  intro u22 u82 u83 u84 u85 u86 u87 u88 u89 u90 u91 u92 u93 u94 u95 u96 u97 u98 u99 u100 u101 u102 w8 S10
  clear S9
  obtain ⟨bk, hbk⟩ : ∃ bk, w8.heap.size = bk := ⟨_, rfl⟩
  have S11 := ((S10.blkAt #[.int .u8 1, .int .u8 3, .int .u8 2, .int .u8 5, .int .u8 4] 62 hbk).nilRow 69 8).p4
  clear S10
  go_wp2
  clear hbk
  generalize (w8.alloc (.cells #[.int .u8 1, .int .u8 3, .int .u8 2, .int .u8 5, .int .u8 4] 62)) = w9 at *
  have e0 : ccells ((sts.take 0).map decOf) = [] := by simp [ccells]
  refine law3 (sts := sts) (by rw [e0]; exact S11) q12 hst hstl hsl _ _ _ _ _ _ _ _ _ _ _ _ _ _ _ _ _ _ _ _ _ _ _ _ _ _ _ _ _ _ _ _ _ _ _ _ _ _ _ _ _ _ _ _ _ _ _ _ _ _ _ _ _ _ _ _ _ _ _ _ _ _ _ _ _ _ _ _ _ _ _ _ _ _ _ _ _ _ _ _ _ _ _ _ _ _ _ _ _ _ _ _ _ _ _ _ _ _ _ _ _ _ _ _ _ _ _ _ _ _ _ _ _ _ _ _ _ _ _ _ _ _ _ _ _ _ _ _ _ _ _ _ _ _ _ _ _ _ _ _ _ _ _ _ _ _ _ _ _ _ _ _ _ _ _ _ _ _ _ _ _ _ _ _ _ _ _ _ _ _ _ _ _ _ _ _ _ _ _ _ _ _ _ _ _ _ _ _ _ _ _ _ _ _ _ _ _ _ _ _ _ _ _ _ _ _ _ _ _ _ _ _ _ _ _ _ _ _ _ _ _ _ _ _ _ _ _ _ _ _ _ _ _ _ _ _ _ _ _ _ _ _ _ _ _ _ _ _ _ _ _ _ _ _ _ _ _ _ _ _ _ _ _ _ _ _ _ _ _ _ _ _ _ _ _ _ _ _ _ _ _ _ _ _ _ _ _ _ _ _ _ _ _ _ _ _ _ _ _ _ _ _ _ _ _ _ _ _ _ _ _ _ _ _ _ _ _ _ _ _ _ _ _ _ _ _ _ _ _ _ _ _ _ _ _ _ _ _ _ _ _ _ _ _ _ _ ?_
  intro u25 u106 u107 u108 u109 u110 u111 u112 u113 u114 u115 u116 u117 u118 u119 u120 u121 u122 u123 u124 u125 u126 u127 u128 u129 u130 u131 u132 u133 u134 w10 vcar S12
  clear S11 e0
  obtain ⟨ds, hds⟩ : ∃ ds, (sts.take sl).map decOf = ds := ⟨_, rfl⟩
  have hdl : ds.length = sl := by rw [← hds]; simp [hstl]
  rw [hds] at S12
  obtain ⟨va, vc, hvc⟩ := own_sliceB (show w10.ownsRow 0 69 8 vcar sl (ccells ds) from S12.tail.head)
  subst hvc
  have hb : w10.heap[bco]? = _ := S12.head
  have p11 : (cs.setIfInBounds 12 (.slice va sl vc)).size = 23 := by simp [qs]
  obtain ⟨o11, c11⟩ : ∃ o, w10.cell? ⟨bco, 11, none⟩ = some o := ⟨(cs.setIfInBounds 12 (.slice va sl vc))[11], by rw [cell_of_row w10 bco 11 _ 60 (0, 0) hb]; simp [qs]⟩
  have f11 : w10.frozen? ⟨bco, 11, none⟩ = false := frozen_of_row w10 bco 11 _ 60 hb
  have S13 := S12.blkSet 11 (.int .u64 d0)
  obtain ⟨cs1, hcs1⟩ : ∃ x, (cs.setIfInBounds 12 (.slice va sl vc)).setIfInBounds 11 (.int .u64 d0) = x := ⟨_, rfl⟩
  have r0 : cs1[0]? = some (.pointer (some ⟨bmm, 0, none⟩)) := by rw [← hcs1]; simp [q0]
  have r9 : cs1[9]? = some (.map (some bB)) := by rw [← hcs1]; simp [q9]
  have r11 : cs1[11]? = some (.int .u64 d0) := by rw [← hcs1]; simp [qs]
  have r12 : cs1[12]? = some (.slice va sl vc) := by rw [← hcs1]; simp [qs]
  rw [hcs1] at S13
  clear hcs1 hb p11 q0 q9 q12 qs S12
  go_upto_region 24 with fail
  generalize (w10.setCell ⟨bco, 11, none⟩ (.int .u64 d0)) = w11 at *
  clear c11 f11
  have c12 : w11.cell? ⟨bco, 12, none⟩ = some (.slice va sl vc) := by rw [cell_of_row w11 bco 12 _ 60 (0, 0) S13.head]; exact r12
  go_wp2_with fail
  clear c12
  have hRv : Rd w11 (.slice ya yn yc) (nl vmask 6) := (show ∀ p ∈ P1, Rd w11 p.1 p.2 from S13.p8.head) _ (hP1 _ List.mem_cons_self)
  refine (clone_any S13 hRv (by have := nl_len vmask 6; omega)).mono ?_
  rintro r w12 ⟨v27, rfl, S14⟩
  clear S13 hRv
  have S15 := (Sep.poolAdd S14.p9.p2).nilRow 27 1
  clear S14
  go_wp2
  refine law4 S15 hmk hml hll _ _ _ _ _ _ _ _ _ _ _ _ _ _ _ _ _ _ _ _ _ _ _ _ _ _ _ _ _ _ _ _ _ _ _ _ _ _ _ _ _ _ _ _ _ _ _ _ _ _ _ _ _ _ _ _ _ _ _ _ _ _ _ _ _ _ _ _ _ _ _ _ _ _ _ _ _ _ _ _ _ _ _ _ _ _ _ _ _ _ _ _ _ _ _ _ _ _ _ _ _ _ _ _ _ _ _ _ _ _ _ _ _ _ _ _ _ _ _ _ _ _ _ _ _ _ _ _ _ _ _ _ _ _ _ _ _ _ _ _ _ _ _ _ _ _ _ _ _ _ _ _ _ _ _ _ _ _ _ _ _ _ _ _ _ _ _ _ _ _ _ _ _ _ _ _ _ _ _ _ _ _ _ _ _ _ _ _ _ _ _ _ _ _ _ _ _ _ _ _ _ _ _ _ _ _ _ _ _ _ _ _ _ _ _ _ _ _ _ _ _ _ _ _ _ _ _ _ _ _ _ _ _ _ _ _ _ _ _ _ _ _ _ _ _ _ _ _ _ _ _ _ _ _ _ _ _ _ _ _ _ _ _ _ _ _ _ _ _ _ _ _ _ _ _ _ _ _ _ _ _ _ _ _ _ _ _ _ _ _ _ _ _ _ _ _ _ _ _ _ _ _ _ _ _ _ _ _ _ _ _ _ _ _ _ _ _ _ _ _ _ _ _ _ _ _ _ _ _ _ _ _ _ _ _ _ _ _ _ _ _ _ _ _ _ _ _ ?_
  intro u28 u30 u148 u149 u150 u151 u152 u153 u154 u155 u156 u157 w13 vs P3 ⟨hP3, hvl, hvs, S16⟩
  clear S15
  obtain ⟨bl, hbl⟩ : ∃ bl, w13.heap.size = bl := ⟨_, rfl⟩
  have S17 := (S16.blkAt #[.int .u64 18446744073709551615] 23 hbl).p2.p6.q4
  clear S16
  go_wp2
  clear hbl
  generalize (w13.alloc (.cells #[.int .u64 18446744073709551615] 23)) = w14 at *
  have hvs' : vs.length = (ms.map (nl · 6)).length := by rw [hvl, List.length_map, hml]
  refine law5 (mp := mp) (V0 := nl vmask 6) (L0 := ms.map (nl · 6)) (vs0 := vs) (sts := sts) (by rw [hvl]; exact S17) (hP3 _ List.mem_cons_self) hvs' (fun j hj => by
    have := hvs j (by omega)
    rwa [show (ms.map (nl · 6)).getD j [] = nl (ms.getD j 0) 6 by simp [List.getD_eq_getElem?_getD, show j < ms.length by omega]]) hst hstl hsl (by have := nl_len vmask 6; omega) (by rw [← hvs', hvl]; omega) _ _ _ _ _ _ _ _ _ _ _ _ _ _ _ _ _ _ _ _ _ _ _ _ _ _ _ _ _ _ _ _ _ _ _ _ _ _ _ _ _ _ _ _ _ _ _ _ _ _ _ _ _ _ _ _ _ _ _ _ _ _ _ _ _ _ _ _ _ _ _ _ _ _ _ _ _ _ _ _ _ _ _ _ _ _ _ _ _ _ _ _ _ _ _ _ _ _ _ _ _ _ _ _ _ _ _ _ _ _ _ _ _ _ _ _ _ _ _ _ _ _ _ _ _ _ _ _ _ _ _ _ _ _ _ _ _ _ _ _ _ _ _ _ _ _ _ _ _ _ _ _ _ _ _ _ _ _ _ _ _ _ _ _ _ _ _ _ _ _ _ _ _ _ _ _ _ _ _ _ _ _ _ _ _ _ _ _ _ _ _ _ _ _ _ _ _ _ _ _ _ _ _ _ _ _ _ _ _ _ _ _ _ _ _ _ _ _ _ _ _ _ _ _ _ _ _ _ _ _ _ _ _ _ _ _ _ _ _ _ _ _ _ _ _ _ _ _ _ _ _ _ _ _ _ _ _ _ _ _ _ _ _ _ _ _ _ _ _ _ _ _ _ _ _ _ _ _ _ _ _ _ _ _ _ _ _ _ _ _ _ _ _ _ _ _ _ _ _ _ _ _ _ _ _ _ _ _ _ _ _ _ _ _ _ _ _ _ _ _ _ _ _ _ _ _ _ _ _ _ _ _ _ _ _ _ _ _ _ _ _ _ _ ?_
  intro u27 u28 u33 u34 u35 u36 u38 u160 u161 u162 u163 u164 u165 u166 u167 u168 u169 u170 u171 u172 u173 u174 u175 u176 u177 u178 u179 u180 u181 u182 u183 u184 u185 u186 u187 u188 u189 u190 u191 u192 u193 u194 u195 u196 u197 u198 u199 u200 u201 u202 u203 u204 u205 u206 u207 u208 u209 u210 u211 u212 u213 u214 u215 u216 u217 u218 u219 u220 u221 w15 vs5 P5 ⟨hP5, hv5, hvl5, hvs5, S18⟩
  clear S17 hvs hvl hvs'
  rw [hds] at hv5 hvl5 hvs5 S18
  have hbd := law_bounds (mp := mp) (vmask := vmask) (ms := ms) hstl hsl (by omega)
  rw [hds] at hbd
  have hrl := run_len mp ds (nl vmask 6, ms.map (nl · 6))
  obtain ⟨V, hV⟩ : ∃ V, (run mp (nl vmask 6, ms.map (nl · 6)) ds).1 = V := ⟨_, rfl⟩
  obtain ⟨L, hL⟩ : ∃ L, (run mp (nl vmask 6, ms.map (nl · 6)) ds).2 = L := ⟨_, rfl⟩
  obtain ⟨last, hlast⟩ : ∃ last, lastN maxU ds = last := ⟨_, rfl⟩
  obtain ⟨n5, hn5⟩ : ∃ n5, vs5.length = n5 := ⟨_, rfl⟩
  rw [hV] at hv5 hbd
  rw [hL] at hvl5 hvs5 hbd
  rw [hlast] at S18
  rw [hn5] at hvl5 hvs5 S18
  have hwants : wants me (kvOf vals (min pl 6)) mp (nl vmask 6, ms.map (nl · 6)) ds = (decide (0 < L.length) && kall V (hol me (kvOf vals (min pl 6)) last) L) := by unfold wants; rw [hV, hL, hlast]
  obtain ⟨lx, lc5, hlx⟩ := own_sliceB (show w15.ownsRow 0 27 1 u28 n5 vs5 from S18.head)
  subst hlx
  have hmf : ∀ (fn : Fn) (first cap : Array Value) (w : World), (Instr.makeFunc fn first cap).run Yba.prog w = .ok (.func fn first cap) w := fun _ _ _ _ => rfl
  have HS18 := Hid.mk' S18
  have HBD := Hid.mk' hbd
  have HV := Hid.mk' hV
  have HL := Hid.mk' hL
  have HLA := Hid.mk' hlast
  have HVL := Hid.mk' hvl5
  have HW := Hid.mk' hwants
  have HN5 := Hid.mk' hn5
  clear S18 hbd hV hL hlast hvl5 hwants hn5 hrl
  go_wp2
  have S19 := HS18.out
  have hC : Cl w15 b2 b bl me pa pl pc last vals := ⟨cell_of_row w15 b2 0 _ 9 (0, 0) S19.p11.head, cell_of_row w15 b 0 _ 24 (0, 0) S19.p8.head, cell_of_row w15 bl 0 _ 23 (0, 0) S19.tail.head, hpv.keep S19.base, hpl'⟩
  have hpool : ∀ p ∈ P5, Rd w15 p.1 p.2 := S19.p3.head
  refine law7 (L := L) (view := V) hC (hpool _ hv5) (by have := HBD.out.1; omega) S19.head (fun i hi => hpool _ (hvs5 i hi)) HVL.out.symm (by have := HBD.out.2.1; have := HVL.out; omega) (fun l hl => (HBD.out.2.2 l hl).1) _ _ _ _ _ _ _ _ _ _ _ _ _ _ _ _ _ _ _ _ _ _ _ _ _ _ _ _ _ _ _ _ _ _ _ _ _ _ _ _ _ _ _ _ _ _ _ _ _ _ _ _ _ _ _ _ _ _ _ _ _ _ _ _ _ _ _ _ _ _ _ _ _ _ _ _ _ _ _ _ _ _ _ _ _ _ _ _ _ _ _ _ _ _ _ _ _ _ _ _ _ _ _ _ _ _ _ _ _ _ _ _ _ _ _ _ _ _ _ _ _ _ _ _ _ _ _ _ _ _ _ _ _ _ _ _ _ _ _ _ _ _ _ _ _ _ _ _ _ _ _ _ _ _ _ _ _ _ _ _ _ _ _ _ _ _ _ _ _ _ _ _ _ _ _ _ _ _ _ _ _ _ _ _ _ _ _ _ _ _ _ _ _ _ _ _ _ _ _ _ _ _ _ _ _ _ _ _ _ _ _ _ _ _ _ _ _ _ _ _ _ _ _ _ _ _ _ _ _ _ _ _ _ _ _ _ _ _ _ _ _ _ _ _ _ _ _ _ _ _ _ _ _ _ _ _ _ _ _ _ _ _ _ _ _ _ _ _ _ _ _ _ _ _ _ _ _ _ _ _ _ _ _ _ _ _ _ _ _ _ _ _ _ _ _ _ _ _ _ _ _ _ _ _ _ _ _ _ _ _ _ _ _ _ _ _ _ _ _ _ _ _ _ _ _ _ _ _ _ _ _ _ _ _ _ _ _ _ _ _ _ _ _ _ _ ?_ ?_
  · intro u42 u43 u45 u46 u228 u229 u230 u231 u232 u233 u234 u235 u236 u237 u238 u239 u240 u241 u242 u243 u244 u245 u246 u247 u248 u249 u250 u251 u252 u253 u254 u255 u256 u257 u258 u259 u260 u261 u262 u263 u264 u265 u266 u267 u268 u269 u270 u271 u272 u273 u274 u275 u276 u277 u278 u279 u280 u40 w16 k16
    clear S19 hC hpool
    have HK := Hid.mk' k16
    clear k16
    go_wp2
    go_ret
    exact ⟨rfl, HS18.out.base.trans HK.out (fun _ _ h => h)⟩
  · intro u14 u42 u43 u45 u46 u228 u229 u230 u231 u232 u233 u234 u235 u236 u237 u238 u239 u240 u241 u242 u243 u244 u245 u246 u247 u248 u249 u250 u251 u252 u253 u254 u255 u256 u257 u258 u259 u260 u261 u262 u263 u264 u265 u266 u267 u268 u269 u270 u271 u272 u273 u274 u275 u276 u277 u278 u279 u280 b40 w16 k16 hne hb40
    clear S19 hC hpool
    have S20 := (HS18.out.quiet k16).p5.p6.p2
    have HB := Hid.mk' hb40
    have HNE := Hid.mk' hne
    have HS20 := Hid.mk' S20
    clear hb40 hne k16 S20
    go_wp2_with fail
    have S20 := HS20.out
    have hpool : ∀ p ∈ P5, Rd w16 p.1 p.2 := S20.p5.head
    have hbm : w16.heap[bmm]? = some (.cells mc 49 (0, 0)) := S20.p9.head
    have hbc : w16.heap[bco]? = some (.cells cs1 60 (0, 0)) := S20.head
    have hCo : Co w16 bco bmm (.slice va sl vc) ds 1 (.slice ya yn yc) (.slice xa ll xc) mp := ⟨by rw [cell_of_row w16 bco 0 _ 60 (0, 0) hbc]; exact r0, by rw [cell_of_row w16 bco 12 _ 60 (0, 0) hbc]; exact r12, by rw [hdl]; exact S20.tail.head, by rw [cell_of_row w16 bmm 7 _ 49 (0, 0) hbm]; exact m7, by rw [cell_of_row w16 bmm 8 _ 49 (0, 0) hbm]; exact m8, by rw [cell_of_row w16 bmm 9 _ 49 (0, 0) hbm]; exact m9, by rw [cell_of_row w16 bmm 23 _ 49 (0, 0) hbm]; exact m23⟩
    have hVR : VRow w16 (.slice xa ll xc) ps (ms.map (nl · 6)) := ⟨by rw [hpl, List.length_map, hml], by rw [hpl]; exact S20.p10.head, fun i hi => by
      rw [show (ms.map (nl · 6)).getD i [] = nl (ms.getD i 0) 6 by simp [List.getD_eq_getElem?_getD, show i < ms.length by omega]]
      exact hpool _ (hP5 _ (hP3 _ (List.mem_cons_of_mem _ (hps i (by omega)).2)))⟩
    have hRv : Rd w16 (.slice ya yn yc) (nl vmask 6) := hpool _ (hP5 _ (hP3 _ (List.mem_cons_of_mem _ (hP1 _ List.mem_cons_self))))
    refine (install_any (ds := ds) (dec := d0) (me := me) (by rw [hdl]; exact S20) r11 r12 hCo hRv hVR S20.pp7.head (by rw [cell_of_row w16 bmm 0 _ 49 (0, 0) hbm]; exact m0) (by rw [cell_of_row w16 bco 9 _ 60 (0, 0) hbc]; exact r9) (by omega) (by have := nl_len vmask 6; omega) (by rw [List.length_map]; omega) (by rw [HL.out]; exact HBD.out.2.2) (by rw [HV.out, HL.out, HLA.out, ← HVL.out]; exact HNE.out)).mono ?_
    rw [HW.out]
    clear S20 hpool hbm hbc hCo hVR hRv
    rintro r w17 ⟨rfl, hcase⟩
    rw [hdl] at hcase
    rcases hcase with ⟨hw, S21⟩ | ⟨hw, vcar', S21⟩
    · obtain rfl : b40 = false := by rw [HB.out, HVL.out]; exact hw
      have HS21 := Hid.mk' S21
      have hbm : w17.heap[bmm]? = some (.cells mc 49 (0, 0)) := S21.p9.head
      have c8 : w17.cell? ⟨bmm, 8, none⟩ = some (.slice ya yn yc) := by rw [cell_of_row w17 bmm 8 _ 49 (0, 0) hbm]; exact m8
      have c9 : w17.cell? ⟨bmm, 9, none⟩ = some (.slice xa ll xc) := by rw [cell_of_row w17 bmm 9 _ 49 (0, 0) hbm]; exact m9
      clear S21 hbm hw
      go_wp2_with fail
      have S21 := HS21.out
      have hRv : Rd w17 (.slice ya yn yc) (nl vmask 6) := (show ∀ p ∈ P5, Rd w17 p.1 p.2 from S21.p5.head) _ (hP5 _ (hP3 _ (List.mem_cons_of_mem _ (hP1 _ List.mem_cons_self))))
      refine (equal_any hRv hRv (by have := nl_len vmask 6; omega)).mono ?_
      rintro r w18 ⟨rfl, k18⟩
      have hbc : w17.heap[bco]? = some (.cells cs1 60 (0, 0)) := S21.head
      have d9 := k18.st c9
      have d11 : w18.cell? ⟨bco, 11, none⟩ = some (.int .u64 d0) := k18.st (by rw [cell_of_row w17 bco 11 _ 60 (0, 0) hbc]; exact r11)
      have d12 : w18.cell? ⟨bco, 12, none⟩ = some (.slice va sl vc) := k18.st (by rw [cell_of_row w17 bco 12 _ 60 (0, 0) hbc]; exact r12)
      have HK := Hid.mk' k18
      clear k18 S21 hRv hbc c8 c9
      go_wp2
      go_ret
      exact ⟨rfl, HS21.out.base.trans HK.out (fun _ _ h => h)⟩
    · obtain rfl : b40 = true := by rw [HB.out, HVL.out]; exact hw
      obtain ⟨nd, hnd⟩ : ∃ nd, succU d0 = nd := ⟨_, rfl⟩
      rw [hnd] at S21
      have hwr : IntKind.u64.wrap ((d0 : Int) + 1) = (nd : Int) := by
        rw [← hnd]; unfold succU
        simp [IntKind.wrap_u64]
      obtain ⟨g, c', hg, hgc, hgm, _⟩ := own_atS (show w17.ownsRow 0 69 8 vcar' (sl + 1) _ from S21.tail.head) (by omega)
      subst hg
      have HS21 := Hid.mk' S21
      have hbm : w17.heap[bmm]? = some (.cells mc 49 (0, 0)) := S21.p9.head
      have c8 : w17.cell? ⟨bmm, 8, none⟩ = some (.slice ya yn yc) := by rw [cell_of_row w17 bmm 8 _ 49 (0, 0) hbm]; exact m8
      have c9 : w17.cell? ⟨bmm, 9, none⟩ = some (.slice xa ll xc) := by rw [cell_of_row w17 bmm 9 _ 49 (0, 0) hbm]; exact m9
      clear S21 hbm hw hnd
      go_wp2_with fail
      have S21 := HS21.out
      have hRv : Rd w17 (.slice ya yn yc) (nl vmask 6) := (show ∀ p ∈ P5, Rd w17 p.1 p.2 from S21.p5.head) _ (hP5 _ (hP3 _ (List.mem_cons_of_mem _ (hP1 _ List.mem_cons_self))))
      refine (equal_any hRv hRv (by have := nl_len vmask 6; omega)).mono ?_
      rintro r w18 ⟨rfl, k18⟩
      have hbc : w17.heap[bco]? = some (.cells ((cs1.setIfInBounds 11 (.int .u64 nd)).setIfInBounds 12 (.slice (some ⟨g, 0, none⟩) (sl + 1) c')) 60 (0, 0)) := S21.head
      have l11 : 11 < cs1.size := (Array.getElem?_eq_some_iff.1 r11).1
      have l12 : 12 < cs1.size := (Array.getElem?_eq_some_iff.1 r12).1
      have d9 := k18.st c9
      have d11 : w18.cell? ⟨bco, 11, none⟩ = some (.int .u64 nd) := k18.st (by rw [cell_of_row w17 bco 11 _ 60 (0, 0) hbc]; simp [l11])
      have d12 : w18.cell? ⟨bco, 12, none⟩ = some (.slice (some ⟨g, 0, none⟩) (sl + 1) c') := k18.st (by rw [cell_of_row w17 bco 12 _ 60 (0, 0) hbc]; simp [l12])
      have hrow : w17.ownsRow 0 69 8 (.slice (some ⟨g, 0, none⟩) (sl + 1) c') (sl + 1) (ccells (ds ++ [⟨nd, 5, ⟨#[]⟩, 0⟩])) := S21.tail.head
      have cg : ∀ j, j < 8 → w18.cell? ⟨g, sl * 8 + j, none⟩ = (Dec.cells ⟨nd, 5, ⟨#[]⟩, 0⟩)[j]? := fun j hj => by
        have h1 := ccells_get (ds ++ [⟨nd, 5, ⟨#[]⟩, 0⟩]) sl j (by simp [hdl]) hj
        rw [show (ds ++ [(⟨nd, 5, ⟨#[]⟩, 0⟩ : Dec)]).getD sl dd = ⟨nd, 5, ⟨#[]⟩, 0⟩ by simp [List.getD_eq_getElem?_getD, ← hdl]] at h1
        obtain ⟨u, hu⟩ : ∃ u, (Dec.cells ⟨nd, 5, ⟨#[]⟩, 0⟩)[j]? = some u := ⟨(Dec.cells ⟨nd, 5, ⟨#[]⟩, 0⟩)[j]'(by simp [Dec.cells]; omega), by simp⟩
        rw [hu] at h1 ⊢
        exact k18.st (own_cell hrow h1)
      have x0 : w18.cell? ⟨g, sl * 8, none⟩ = some (.int .u64 nd) := cg 0 (by omega)
      have x1 : w18.cell? ⟨g, sl * 8 + 1, none⟩ = some (.int .u8 5) := cg 1 (by omega)
      have x2 : w18.cell? ⟨g, sl * 8 + 2, none⟩ = some (.string ⟨#[]⟩) := cg 2 (by omega)
      have x3 : w18.cell? ⟨g, sl * 8 + 3, none⟩ = some (.int .u64 0) := cg 3 (by omega)
      have x4 : w18.cell? ⟨g, sl * 8 + 4, none⟩ = some (.int .u64 0) := cg 4 (by omega)
      have x5 : w18.cell? ⟨g, sl * 8 + 5, none⟩ = some (.int .i64 0) := cg 5 (by omega)
      have x6 : w18.cell? ⟨g, sl * 8 + 6, none⟩ = some (.pointer none) := cg 6 (by omega)
      have x7 : w18.cell? ⟨g, sl * 8 + 7, none⟩ = some (.bool false) := cg 7 (by omega)
      have h67 : (Op.equalIn 9999 67 (.pointer none) (.pointer none)).run Yba.prog w18 = .ok true w18 := run_equalIn_pointer_nil w18 9998 67 none (by simp [Program.pointee, Yba.underlying67])
      have HK := Hid.mk' k18
      clear k18 S21 hRv hbc c8 c9 hrow cg l11 l12
      go_wp2
      go_ret
      exact ⟨rfl, HS21.out.base.trans HK.out (fun _ _ h => h)⟩
end Go.Proofs.Ybulkcdkc
