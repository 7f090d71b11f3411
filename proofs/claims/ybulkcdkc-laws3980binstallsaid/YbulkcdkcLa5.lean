import Derived.Test.YbulkcdkcLa6
import Derived.Test.YbulkcdkcLa4
namespace Go.Proofs.Ybulkcdkc
open Go.RowKit

/-- The kinds, in the law's own order. -/
def kd : Nat → Nat
  | 0 => 1
  | 1 => 3
  | 2 => 2
  | 3 => 5
  | _ => 4
/-- A step as a decision. -/
def decOf (s : Nat × Nat × Nat × Nat) : Dec := ⟨s.2.2.1, kd (s.1 % 5), nmB (s.2.1 % 6), s.2.2.2⟩
def s00 : Nat × Nat × Nat × Nat := (0, 0, 0, 0)
def StAt (w : World) (a : Option Addr) (sts : List (Nat × Nat × Nat × Nat)) : Prop := ∀ i, i < sts.length → ∃ a0, a = some a0 ∧ (sts.getD i s00).1 < 256 ∧ (sts.getD i s00).2.1 < 256 ∧ w.cell? (a0.add (i * 4)) = some (.int .u8 (sts.getD i s00).1) ∧ w.cell? ⟨(a0.add (i * 4)).block, (a0.add (i * 4)).off + 1, none⟩ = some (.int .u8 (sts.getD i s00).2.1) ∧ w.cell? ⟨(a0.add (i * 4)).block, (a0.add (i * 4)).off + 2, none⟩ = some (.int .u64 (sts.getD i s00).2.2.1) ∧ w.cell? ⟨(a0.add (i * 4)).block, (a0.add (i * 4)).off + 3, none⟩ = some (.int .u64 (sts.getD i s00).2.2.2)
theorem StAt.keep {w w' : World} {a : Option Addr} {sts : List (Nat × Nat × Nat × Nat)} (h : StAt w a sts) (k : Keeps (fun _ => False) w w') : StAt w' a sts := fun i hi => by
  obtain ⟨a0, ha, h1, h2, c0, c1, c2, c3⟩ := h i hi
  exact ⟨a0, ha, h1, h2, k.st c0, k.st c1, k.st c2, k.st c3⟩
theorem take_dec {sts : List (Nat × Nat × Nat × Nat)} {i : Nat} (hi : i < sts.length) : (sts.take (i + 1)).map decOf = (sts.take i).map decOf ++ [decOf (sts.getD i s00)] := by
  rw [List.take_add_one, List.getElem?_eq_getElem hi, List.map_append]
  have : sts.getD i s00 = sts[i] := by simp [hi]
  rw [this]; rfl

set_option maxHeartbeats 6400000 in
set_option maxRecDepth 1000000 in
theorem law5 {W0 w : World} {a : Option Addr} {n cap bk bl mp : Nat} {v27 v28 : Value} {sts : List (Nat × Nat × Nat × Nat)} {V0 : List ByteArray} {L0 : List (List ByteArray)} {vs0 : List Value} {P : List (Value × List ByteArray)} {rs : List Res} {Q : Exit → Act → World → Prop} (S : Sep W0 w (Res.row 27 1 v28 vs0.length vs0 :: Res.blk bl #[.int .u64 maxU] 23 :: Res.pool P :: Res.blk bk #[.int .u8 1, .int .u8 3, .int .u8 2, .int .u8 5, .int .u8 4] 62 :: rs)) (hv : (v27, V0) ∈ P) (hvs : vs0.length = L0.length) (hvm : ∀ j, j < vs0.length → (vs0.getD j undef, L0.getD j []) ∈ P) (hst : StAt W0 a sts) (hl : sts.length = n) (hlen : n ≤ 300) (hV0 : V0.length ≤ 400) (hL0 : L0.length ≤ 400) (c0 c1 c2 c4 c5 c6 c7 c8 c9 c10 c11 c12 c13 c14 c15 c16 c17 c18 c19 c20 c21 c22 c24 c25 c26 c29 c30 c32 c33 c34 c35 c36 c37 c38 c39 c40 c41 c42 c43 c44 c45 c46 c47 c48 c49 c50 c51 c52 c53 c54 c55 c56 c57 c58 c59 c60 c61 c62 c63 c64 c65 c66 c67 c68 c69 c70 c71 c72 c73 c74 c75 c76 c77 c78 c79 c80 c81 c82 c83 c84 c85 c86 c87 c88 c89 c90 c91 c92 c93 c94 c95 c96 c97 c98 c99 c100 c101 c102 c103 c104 c105 c106 c107 c108 c109 c110 c111 c112 c113 c114 c115 c116 c117 c118 c119 c120 c121 c122 c123 c124 c125 c126 c127 c128 c129 c130 c131 c132 c133 c134 c135 c136 c137 c138 c139 c140 c141 c142 c143 c144 c145 c146 c147 c148 c149 c150 c151 c152 c153 c154 c155 c156 c157 c161 c162 c163 c164 c165 c166 c167 c168 c169 c170 c171 c172 c173 c174 c175 c176 c177 c178 c179 c180 c181 c182 c183 c184 c185 c186 c187 c188 c189 c190 c191 c192 c193 c194 c195 c196 c197 c198 c199 c200 c201 c202 c203 c204 c205 c206 c207 c208 c209 c210 c211 c212 c213 c214 c215 c216 c217 c218 c219 c220 c221 c222 c223 c224 c225 c226 c227 c228 c229 c230 c231 c232 c233 c234 c235 c236 c237 c238 c239 c240 c241 c242 c243 c244 c245 c246 c247 c248 c249 c250 c251 c252 c253 c254 c255 c256 c257 c258 c259 c260 c261 c262 c263 c264 c265 c266 c267 c268 c269 c270 c271 c272 c273 c274 c275 c276 c277 c278 c279 c280 c281 c282 c283 c284 c285 c286 c287 c288 c289 c290 c291 c292 c293 c294 c295 c296 c297 c298 c299 c300 c301 c302 c303 c304 c305 c306 c307 c308 c309 c310 c311 c312 c313 c314 c315 c316 c317 c318 c319 c320 c321 c322 c323 c324 c325 c326 c327 c328 c329 c330 c331 c332 c333 c334 c335 c336 c337 c338 c339 c340 c341 c342 c343 c344 c345 c346 c347 c348 c349 c350 : Value)
    (hend : ∀ (u27 u28 u33 u34 u35 u36 u38 u160 u161 u162 u163 u164 u165 u166 u167 u168 u169 u170 u171 u172 u173 u174 u175 u176 u177 u178 u179 u180 u181 u182 u183 u184 u185 u186 u187 u188 u189 u190 u191 u192 u193 u194 u195 u196 u197 u198 u199 u200 u201 u202 u203 u204 u205 u206 u207 u208 u209 u210 u211 u212 u213 u214 u215 u216 u217 u218 u219 u220 u221 : Value) (wx : World) (vs : List Value) (P' : List (Value × List ByteArray)), (∀ p ∈ P, p ∈ P') ∧ (u27, (run mp (V0, L0) ((sts.take n).map decOf)).1) ∈ P' ∧ vs.length = (run mp (V0, L0) ((sts.take n).map decOf)).2.length ∧ (∀ j, j < vs.length → (vs.getD j undef, (run mp (V0, L0) ((sts.take n).map decOf)).2.getD j []) ∈ P') ∧ Sep W0 wx (Res.row 27 1 u28 vs.length vs :: Res.blk bl #[.int .u64 (lastN maxU ((sts.take n).map decOf))] 23 :: Res.pool P' :: Res.blk bk #[.int .u8 1, .int .u8 3, .int .u8 2, .int .u8 5, .int .u8 4] 62 :: rs) → Q (.exit 8) ⟨#[c0, c1, c2, .int .u64 (mp : Int), c4, c5, c6, c7, c8, c9, c10, c11, c12, c13, c14, c15, c16, c17, c18, c19, c20, c21, c22, .pointer (some ⟨bk, 0, none⟩), c24, c25, c26, u27, u28, c29, c30, .pointer (some ⟨bl, 0, none⟩), c32, u33, u34, u35, u36, c37, u38, c39, c40, c41, c42, c43, c44, c45, c46, c47, c48, c49, c50, c51, c52, c53, c54, c55, c56, c57, c58, c59, c60, c61, c62, c63, c64, c65, c66, c67, c68, c69, c70, c71, c72, c73, c74, c75, c76, c77, c78, c79, c80, c81, c82, c83, c84, c85, c86, c87, c88, c89, c90, c91, c92, c93, c94, c95, c96, c97, c98, c99, c100, c101, c102, c103, c104, c105, c106, c107, c108, c109, c110, c111, c112, c113, c114, c115, c116, c117, c118, c119, c120, c121, c122, c123, c124, c125, c126, c127, c128, c129, c130, c131, c132, c133, c134, c135, c136, c137, c138, c139, c140, c141, c142, c143, c144, c145, c146, c147, c148, c149, c150, c151, c152, c153, c154, c155, c156, c157, .slice a n cap, .int .i64 (n : Int), u160, u161, u162, u163, u164, u165, u166, u167, u168, u169, u170, u171, u172, u173, u174, u175, u176, u177, u178, u179, u180, u181, u182, u183, u184, u185, u186, u187, u188, u189, u190, u191, u192, u193, u194, u195, u196, u197, u198, u199, u200, u201, u202, u203, u204, u205, u206, u207, u208, u209, u210, u211, u212, u213, u214, u215, u216, u217, u218, u219, u220, u221, c222, c223, c224, c225, c226, c227, c228, c229, c230, c231, c232, c233, c234, c235, c236, c237, c238, c239, c240, c241, c242, c243, c244, c245, c246, c247, c248, c249, c250, c251, c252, c253, c254, c255, c256, c257, c258, c259, c260, c261, c262, c263, c264, c265, c266, c267, c268, c269, c270, c271, c272, c273, c274, c275, c276, c277, c278, c279, c280, c281, c282, c283, c284, c285, c286, c287, c288, c289, c290, c291, c292, c293, c294, c295, c296, c297, c298, c299, c300, c301, c302, c303, c304, c305, c306, c307, c308, c309, c310, c311, c312, c313, c314, c315, c316, c317, c318, c319, c320, c321, c322, c323, c324, c325, c326, c327, c328, c329, c330, c331, c332, c333, c334, c335, c336, c337, c338, c339, c340, c341, c342, c343, c344, c345, c346, c347, c348, c349, c350], []⟩ wx) :
    Code.wp Yba.prog (lawLoop 34) Q ⟨#[c0, c1, c2, .int .u64 (mp : Int), c4, c5, c6, c7, c8, c9, c10, c11, c12, c13, c14, c15, c16, c17, c18, c19, c20, c21, c22, .pointer (some ⟨bk, 0, none⟩), c24, c25, c26, v27, v28, c29, c30, .pointer (some ⟨bl, 0, none⟩), c32, c33, c34, c35, c36, c37, c38, c39, c40, c41, c42, c43, c44, c45, c46, c47, c48, c49, c50, c51, c52, c53, c54, c55, c56, c57, c58, c59, c60, c61, c62, c63, c64, c65, c66, c67, c68, c69, c70, c71, c72, c73, c74, c75, c76, c77, c78, c79, c80, c81, c82, c83, c84, c85, c86, c87, c88, c89, c90, c91, c92, c93, c94, c95, c96, c97, c98, c99, c100, c101, c102, c103, c104, c105, c106, c107, c108, c109, c110, c111, c112, c113, c114, c115, c116, c117, c118, c119, c120, c121, c122, c123, c124, c125, c126, c127, c128, c129, c130, c131, c132, c133, c134, c135, c136, c137, c138, c139, c140, c141, c142, c143, c144, c145, c146, c147, c148, c149, c150, c151, c152, c153, c154, c155, c156, c157, .slice a n cap, .int .i64 (n : Int), .int .i64 0, c161, c162, c163, c164, c165, c166, c167, c168, c169, c170, c171, c172, c173, c174, c175, c176, c177, c178, c179, c180, c181, c182, c183, c184, c185, c186, c187, c188, c189, c190, c191, c192, c193, c194, c195, c196, c197, c198, c199, c200, c201, c202, c203, c204, c205, c206, c207, c208, c209, c210, c211, c212, c213, c214, c215, c216, c217, c218, c219, c220, c221, c222, c223, c224, c225, c226, c227, c228, c229, c230, c231, c232, c233, c234, c235, c236, c237, c238, c239, c240, c241, c242, c243, c244, c245, c246, c247, c248, c249, c250, c251, c252, c253, c254, c255, c256, c257, c258, c259, c260, c261, c262, c263, c264, c265, c266, c267, c268, c269, c270, c271, c272, c273, c274, c275, c276, c277, c278, c279, c280, c281, c282, c283, c284, c285, c286, c287, c288, c289, c290, c291, c292, c293, c294, c295, c296, c297, c298, c299, c300, c301, c302, c303, c304, c305, c306, c307, c308, c309, c310, c311, c312, c313, c314, c315, c316, c317, c318, c319, c320, c321, c322, c323, c324, c325, c326, c327, c328, c329, c330, c331, c332, c333, c334, c335, c336, c337, c338, c339, c340, c341, c342, c343, c344, c345, c346, c347, c348, c349, c350], []⟩ w := by
  obtain ⟨i27, hi27, hz27, hs27, hb27⟩ := info_parts Yba.info27
  obtain ⟨i9, hi9, hz9, hs9, hb9⟩ := info_parts Yba.info9
  have HEND := Hid.mk' hend
  have HST := Hid.mk' hst
  have HL := Hid.mk' hl
  clear hend hst hl
  conv => arg 2; whnf
  dsimp only
  go_loopw [27, 28, 33, 34, 35, 36, 38, 160] (fun v27 v28 _ _ _ _ _ vi wx => ∃ (i : Nat) (vs : List Value) (P' : List (Value × List ByteArray)), i ≤ n ∧ vi = .int .i64 i ∧ (∀ p ∈ P, p ∈ P') ∧ (v27, (run mp (V0, L0) ((sts.take i).map decOf)).1) ∈ P' ∧ vs.length = (run mp (V0, L0) ((sts.take i).map decOf)).2.length ∧ (∀ j, j < vs.length → (vs.getD j undef, (run mp (V0, L0) ((sts.take i).map decOf)).2.getD j []) ∈ P') ∧ Sep W0 wx (Res.row 27 1 v28 vs.length vs :: Res.blk bl #[.int .u64 (lastN maxU ((sts.take i).map decOf))] 23 :: Res.pool P' :: Res.blk bk #[.int .u8 1, .int .u8 3, .int .u8 2, .int .u8 5, .int .u8 4] 62 :: rs)) (fun _ _ _ _ _ _ _ vi _ => n - (intOf vi).toNat)
  case atStart => exact ⟨0, vs0, P, by omega, rfl, fun p hp => hp, hv, hvs, hvm, S⟩
  case round =>
    clear S hv hvs hvm
    obtain ⟨i, vs, P', hi, rfl, hsub, hv, hvs, hvm, S⟩ := hrel
    have HSUB := Hid.mk' hsub
    have HV := Hid.mk' hv
    have HVS := Hid.mk' hvs
    have HVM := Hid.mk' hvm
    clear hsub hv hvs hvm
    by_cases hlt : i < n
    · have y0 : (i : Int) < (n : Int) := by omega
      have y1 : (0 : Int) ≤ (i : Int) := by omega
      obtain ⟨a0, ha, hk, hwh, c0, c1, c2, c3⟩ := (HST.out.keep S.base) i (by have := HL.out; omega)
      subst ha
      have htd := take_dec (sts := sts) (i := i) (by have := HL.out; omega)
      have hrun := run_snoc mp (decOf (sts.getD i s00)) ((sts.take i).map decOf) (V0, L0)
      have hlas := lastN_snoc (decOf (sts.getD i s00)) ((sts.take i).map decOf) maxU
      have hrl := run_len mp ((sts.take i).map decOf) (V0, L0)
      rw [← htd] at hrun hlas
      obtain ⟨k, wh, num, sq, hs⟩ : ∃ k wh num sq, sts.getD i s00 = (k, wh, num, sq) := ⟨_, _, _, _, rfl⟩
      rw [hs] at hk hwh c0 c1 c2 c3 hrun hlas
      simp only [List.length_map, List.length_take] at hrl
      obtain ⟨R, hR⟩ : ∃ R, run mp (V0, L0) ((sts.take i).map decOf) = R := ⟨_, rfl⟩
      obtain ⟨lst, hlst⟩ : ∃ lst, lastN maxU ((sts.take i).map decOf) = lst := ⟨_, rfl⟩
      have hv := HV.out
      have hvs := HVS.out
      have hvm := HVM.out
      rw [hR] at hrun hrl hv hvs hvm
      rw [hlst] at hlas S
      obtain ⟨V, L⟩ := R
      have HV := Hid.mk' hv
      have HVS := Hid.mk' hvs
      have HVM := Hid.mk' hvm
      have HRUN := Hid.mk' hrun
      have HLAS := Hid.mk' hlas
      obtain ⟨b33, hb33⟩ : ∃ b33, wr.heap.size = b33 := ⟨_, rfl⟩
      have S1 := S.blkAt #[.int .u8 k, .int .u8 wh, .int .u64 num, .int .u64 sq] 64 hb33
      clear S hv hvs hvm hrun hlas hs htd hR hlst
      go_upto_region 36 with fail
      clear c0 c1 c2 c3 hb33
      generalize (wr.alloc (.cells #[.int .u8 k, .int .u8 wh, .int .u64 num, .int .u64 sq] 64)) = w1 at *
      have hb1 : w1.heap[b33]? = _ := S1.head
      have d0 : w1.cell? ⟨b33, 0, none⟩ = some (.int .u8 k) := cell_of_row w1 b33 0 _ 64 (0, 0) hb1
      have d1 : w1.cell? ⟨b33, 1, none⟩ = some (.int .u8 wh) := cell_of_row w1 b33 1 _ 64 (0, 0) hb1
      have hbk : w1.heap[bk]? = _ := S1.p5.head
      have hm5 : k % 5 = 0 ∨ k % 5 = 1 ∨ k % 5 = 2 ∨ k % 5 = 3 ∨ k % 5 = 4 := by omega
      have hb0 : (0 : Int) ≤ (k : Int) := by omega
      rcases hm5 with h | h | h | h | h
      · have h5 : (k : Int) % 5 = 0 := by omega
        have hdk : (decOf (k, wh, num, sq)).k = 1 := by show kd (k % 5) = 1; rw [h]; rfl
        have e0 : w1.cell? ⟨bk, 0, none⟩ = some (.int .u8 1) := cell_of_row w1 bk 0 _ 62 (0, 0) hbk
        clear hb1 hbk
        go_wp2_with fail
        refine (name_any w1 wh hwh).mono ?_
        rintro r w2 ⟨rfl, k2⟩
        have S2 := S1.quiet k2
        obtain ⟨fr, hfr⟩ : ∃ fr, nmB (wh % 6) = fr := ⟨_, rfl⟩
        have hdf : (decOf (k, wh, num, sq)).fr = fr := hfr
        rw [hfr]
        clear S1 d0 d1 e0 k2 hfr
        have hb2 : w2.heap[b33]? = _ := S2.head
        have d2 : w2.cell? ⟨b33, 2, none⟩ = some (.int .u64 num) := cell_of_row w2 b33 2 _ 64 (0, 0) hb2
        clear hb2
        by_cases hnm : num ≤ mp
        · have hnm' : decide ((num : Int) ≤ (mp : Int)) = true := by simp; omega
          have hn' : ¬ mp < (decOf (k, wh, num, sq)).num := by show ¬ mp < num; omega
          have HS := Hid.mk' S2
          have HD := Hid.mk' (And.intro hdk hn')
          clear S2 hdk hdf hn'
          go_wp2
          go_roundw
          case rel =>
            refine ⟨i + 1, vs, P', by omega, by go_num, ?_, ?_, ?_, ?_, ?_⟩
            · exact HSUB.out
            · rw [HRUN.out, if_neg HD.out.2]; exact HV.out
            · rw [HRUN.out, if_neg HD.out.2]; exact HVS.out
            · rw [HRUN.out, if_neg HD.out.2]; exact HVM.out
            · rw [HLAS.out, if_neg (by rw [HD.out.1]; omega)]; exact HS.out.tail
          case measure => simp [intOf]; omega
        · have hnm' : decide ((num : Int) ≤ (mp : Int)) = false := by simp; omega
          have hn' : mp < (decOf (k, wh, num, sq)).num := by show mp < num; omega
          have hid : (afterL (decOf (k, wh, num, sq)).k (decOf (k, wh, num, sq)).fr (V, L).1, leftL (decOf (k, wh, num, sq)).k (V, L).1 (V, L).2) = (V, L) := by rw [hdk]; rfl
          have HS := Hid.mk' S2
          have HD := Hid.mk' (And.intro hdk (And.intro hn' hid))
          clear S2 hdk hdf hn' hid
          go_wp2
          go_roundw
          case rel =>
            refine ⟨i + 1, vs, P', by omega, by go_num, ?_, ?_, ?_, ?_, ?_⟩
            · exact HSUB.out
            · rw [HRUN.out, if_pos HD.out.2.1, HD.out.2.2]; exact HV.out
            · rw [HRUN.out, if_pos HD.out.2.1, HD.out.2.2]; exact HVS.out
            · rw [HRUN.out, if_pos HD.out.2.1, HD.out.2.2]; exact HVM.out
            · rw [HLAS.out, if_neg (by rw [HD.out.1]; omega)]; exact HS.out.tail
          case measure => simp [intOf]; omega
      · have h5 : (k : Int) % 5 = 1 := by omega
        have hdk : (decOf (k, wh, num, sq)).k = 3 := by show kd (k % 5) = 3; rw [h]; rfl
        have e0 : w1.cell? ⟨bk, 1, none⟩ = some (.int .u8 3) := cell_of_row w1 bk 1 _ 62 (0, 0) hbk
        clear hb1 hbk
        go_wp2_with fail
        refine (name_any w1 wh hwh).mono ?_
        rintro r w2 ⟨rfl, k2⟩
        have S2 := S1.quiet k2
        obtain ⟨fr, hfr⟩ : ∃ fr, nmB (wh % 6) = fr := ⟨_, rfl⟩
        have hdf : (decOf (k, wh, num, sq)).fr = fr := hfr
        rw [hfr]
        clear S1 d0 d1 e0 k2 hfr
        have hb2 : w2.heap[b33]? = _ := S2.head
        have d2 : w2.cell? ⟨b33, 2, none⟩ = some (.int .u64 num) := cell_of_row w2 b33 2 _ 64 (0, 0) hb2
        have hbl : w2.heap[bl]? = _ := S2.p3.head
        have e1 : w2.cell? ⟨bl, 0, none⟩ = some (.int .u64 lst) := cell_of_row w2 bl 0 _ 23 (0, 0) hbl
        have e2 : w2.frozen? ⟨bl, 0, none⟩ = false := frozen_of_row w2 bl 0 _ 23 hbl
        have S3 : Sep W0 (w2.setCell ⟨bl, 0, none⟩ (.int .u64 num)) (Res.blk b33 #[.int .u8 k, .int .u8 wh, .int .u64 num, .int .u64 sq] 64 :: Res.row 27 1 u28 vs.length vs :: Res.blk bl #[.int .u64 num] 23 :: Res.pool P' :: Res.blk bk #[.int .u8 1, .int .u8 3, .int .u8 2, .int .u8 5, .int .u8 4] 62 :: rs) := (S2.p3.blkSet 0 (.int .u64 num)).q3
        clear hbl S2 hb2
        go_upto_region 40 with fail
        generalize (w2.setCell ⟨bl, 0, none⟩ (.int .u64 num)) = w3 at *
        clear d2 e1 e2
        have hb3 : w3.heap[b33]? = _ := S3.head
        have d2 : w3.cell? ⟨b33, 2, none⟩ = some (.int .u64 num) := cell_of_row w3 b33 2 _ 64 (0, 0) hb3
        clear hb3
        by_cases hnm : num ≤ mp
        · have hnm' : decide ((num : Int) ≤ (mp : Int)) = true := by simp; omega
          have hn' : ¬ mp < (decOf (k, wh, num, sq)).num := by show ¬ mp < num; omega
          have HS := Hid.mk' S3
          have HD := Hid.mk' (And.intro hdk hn')
          clear S3 hdk hdf hn'
          go_wp2
          go_roundw
          case rel =>
            refine ⟨i + 1, vs, P', by omega, by go_num, ?_, ?_, ?_, ?_, ?_⟩
            · exact HSUB.out
            · rw [HRUN.out, if_neg HD.out.2]; exact HV.out
            · rw [HRUN.out, if_neg HD.out.2]; exact HVS.out
            · rw [HRUN.out, if_neg HD.out.2]; exact HVM.out
            · rw [HLAS.out, if_pos (by first | exact .inl HD.out.1 | exact .inr HD.out.1)]; exact HS.out.tail
          case measure => simp [intOf]; omega
        · have hnm' : decide ((num : Int) ≤ (mp : Int)) = false := by simp; omega
          have hn' : mp < (decOf (k, wh, num, sq)).num := by show mp < num; omega
          have hid : (afterL (decOf (k, wh, num, sq)).k (decOf (k, wh, num, sq)).fr (V, L).1, leftL (decOf (k, wh, num, sq)).k (V, L).1 (V, L).2) = (V ++ [fr], L ++ [V]) := by rw [hdk, hdf]; rfl
          have HD := Hid.mk' (And.intro hdk (And.intro hn' hid))
          have hRv : Rd w3 u27 V := (show ∀ p ∈ P', Rd w3 p.1 p.2 from S3.p4.head) _ HV.out
          obtain ⟨xa, xc, hx⟩ := own_sliceB hRv
          obtain ⟨mn, hmn⟩ : ∃ mn, V.length = mn := ⟨_, rfl⟩
          rw [hmn] at hx
          subst hx
          have hvl : vs.length ≤ 800 := by have : vs.length = L.length := HVS.out; omega
          have hml : mn ≤ 800 := by omega
          obtain ⟨vn, hvn⟩ : ∃ vn, vs.length = vn := ⟨_, rfl⟩
          rw [hvn] at S3 hvl
          have HMN := Hid.mk' hmn
          have HVN := Hid.mk' hvn
          have S4 := S3.tail.quiet ((Keeps.refl (fun _ => False) w3).alloc (.cells #[.slice xa mn xc] 27))
          have hO : World.ownsRow _ 0 27 1 u28 vn vs := S4.head
          clear S3 hdk hdf hn' hid hRv hmn hvn
          go_wp2_with (at_builtin; refine wpList_app _ rfl (.tmp 190) (.tmp 192) 71 rfl 27 i27 (.slice none 0 0) 1 24 Yba.underlying71 hi27 hz27 hs27 hb27 rfl (by omega) u28 vn vs rfl hO 1 [.slice xa mn xc] (Src.one_new w3 _ _ rfl) (by unfold maxLen; omega) (by omega) ?_; intro x7 w7 hA7 hn7)
          have S5 := S4.app hA7
          have hRv7 : Rd w7 (.slice xa mn xc) V := (show ∀ p ∈ P', Rd w7 p.1 p.2 from S5.p3.head) _ HV.out
          clear S4 hO hA7 d2
          have hck := clone_any S5 hRv7 (by have := HMN.out; omega)
          refine hck.mono ?_
          rintro r w8 ⟨v8, rfl, S8⟩
          rw [HMN.out] at S8
          have S9 := S8.quiet ((Keeps.refl (fun _ => False) w8).alloc (.cells #[.string fr] 9))
          have hO9 : World.ownsRow _ 0 9 1 v8 mn (strs V) := S9.head
          clear S5 hRv7 hck S8
          go_wp2_with (at_builtin; refine wpList_app _ rfl (.tmp 195) (.tmp 197) 27 rfl 9 i9 (.string ⟨#[]⟩) 1 16 Yba.underlying27 hi9 hz9 hs9 hb9 rfl (by omega) v8 mn (strs V) rfl hO9 1 [.string fr] (Src.one_new w8 _ _ rfl) (by unfold maxLen; omega) (by omega) ?_; intro x9 w9 hA9 hn9)
          have S10 := S9.app hA9
          have S11 : Sep W0 w9 (Res.row 27 1 x7 (vn + 1) (vs ++ [.slice xa mn xc]) :: Res.blk bl #[.int .u64 num] 23 :: Res.pool ((x9, V ++ [fr]) :: P') :: Res.blk bk #[.int .u8 1, .int .u8 3, .int .u8 2, .int .u8 5, .int .u8 4] 62 :: rs) := by
            refine (Sep.poolAdd (v := x9) (ss := V ++ [fr]) ?_).q3
            rw [strs_append, show (V ++ [fr]).length = mn + 1 by rw [List.length_append, HMN.out]; rfl]
            exact S10.p4.p2
          have HS := Hid.mk' S11
          clear S9 hO9 hA9 S10 S11
          go_roundw
          case rel =>
            refine ⟨i + 1, vs ++ [.slice xa mn xc], (x9, V ++ [fr]) :: P', by omega, by go_num, ?_, ?_, ?_, ?_, ?_⟩
            · exact fun p hp => List.mem_cons_of_mem _ (HSUB.out p hp)
            · rw [HRUN.out, if_pos HD.out.2.1, HD.out.2.2]; exact List.mem_cons_self
            · rw [HRUN.out, if_pos HD.out.2.1, HD.out.2.2]; exact (by have h2 : vs.length = L.length := HVS.out; simp [h2])
            · rw [HRUN.out, if_pos HD.out.2.1, HD.out.2.2]; exact (fun j hj => by
                by_cases hji : j < vs.length
                · have h1 := HVM.out j hji
                  have h2 : vs.length = L.length := HVS.out
                  rw [List.getD_eq_getElem?_getD, List.getElem?_append_left hji, ← List.getD_eq_getElem?_getD, List.getD_eq_getElem?_getD (l := L ++ [V]), List.getElem?_append_left (by rw [← h2]; exact hji), ← List.getD_eq_getElem?_getD]
                  exact List.mem_cons_of_mem _ h1
                · have h2 : vs.length = L.length := HVS.out
                  have e : j = vs.length := by simp at hj; omega
                  subst e
                  rw [List.getD_eq_getElem?_getD, List.getElem?_append_right (Nat.le_refl _), List.getD_eq_getElem?_getD (l := L ++ [V]), h2, List.getElem?_append_right (Nat.le_refl _)]
                  refine List.mem_cons_of_mem _ ?_
                  simpa using HV.out)
            · rw [HLAS.out, if_pos (by first | exact .inl HD.out.1 | exact .inr HD.out.1)]; exact (show Sep W0 _ (Res.row 27 1 x7 (vs ++ [Value.slice xa mn xc]).length (vs ++ [Value.slice xa mn xc]) :: _) by rw [show (vs ++ [Value.slice xa mn xc]).length = vn + 1 by rw [List.length_append, HVN.out]; rfl]; exact HS.out)
          case measure => simp [intOf]; omega
      · have h5 : (k : Int) % 5 = 2 := by omega
        have hdk : (decOf (k, wh, num, sq)).k = 2 := by show kd (k % 5) = 2; rw [h]; rfl
        have e0 : w1.cell? ⟨bk, 2, none⟩ = some (.int .u8 2) := cell_of_row w1 bk 2 _ 62 (0, 0) hbk
        clear hb1 hbk
        go_wp2_with fail
        refine (name_any w1 wh hwh).mono ?_
        rintro r w2 ⟨rfl, k2⟩
        have S2 := S1.quiet k2
        obtain ⟨fr, hfr⟩ : ∃ fr, nmB (wh % 6) = fr := ⟨_, rfl⟩
        have hdf : (decOf (k, wh, num, sq)).fr = fr := hfr
        rw [hfr]
        clear S1 d0 d1 e0 k2 hfr
        have hb2 : w2.heap[b33]? = _ := S2.head
        have d2 : w2.cell? ⟨b33, 2, none⟩ = some (.int .u64 num) := cell_of_row w2 b33 2 _ 64 (0, 0) hb2
        have hbl : w2.heap[bl]? = _ := S2.p3.head
        have e1 : w2.cell? ⟨bl, 0, none⟩ = some (.int .u64 lst) := cell_of_row w2 bl 0 _ 23 (0, 0) hbl
        have e2 : w2.frozen? ⟨bl, 0, none⟩ = false := frozen_of_row w2 bl 0 _ 23 hbl
        have S3 : Sep W0 (w2.setCell ⟨bl, 0, none⟩ (.int .u64 num)) (Res.blk b33 #[.int .u8 k, .int .u8 wh, .int .u64 num, .int .u64 sq] 64 :: Res.row 27 1 u28 vs.length vs :: Res.blk bl #[.int .u64 num] 23 :: Res.pool P' :: Res.blk bk #[.int .u8 1, .int .u8 3, .int .u8 2, .int .u8 5, .int .u8 4] 62 :: rs) := (S2.p3.blkSet 0 (.int .u64 num)).q3
        clear hbl S2 hb2
        go_upto_region 40 with fail
        generalize (w2.setCell ⟨bl, 0, none⟩ (.int .u64 num)) = w3 at *
        clear d2 e1 e2
        have hb3 : w3.heap[b33]? = _ := S3.head
        have d2 : w3.cell? ⟨b33, 2, none⟩ = some (.int .u64 num) := cell_of_row w3 b33 2 _ 64 (0, 0) hb3
        clear hb3
        by_cases hnm : num ≤ mp
        · have hnm' : decide ((num : Int) ≤ (mp : Int)) = true := by simp; omega
          have hn' : ¬ mp < (decOf (k, wh, num, sq)).num := by show ¬ mp < num; omega
          have HS := Hid.mk' S3
          have HD := Hid.mk' (And.intro hdk hn')
          clear S3 hdk hdf hn'
          go_wp2
          go_roundw
          case rel =>
            refine ⟨i + 1, vs, P', by omega, by go_num, ?_, ?_, ?_, ?_, ?_⟩
            · exact HSUB.out
            · rw [HRUN.out, if_neg HD.out.2]; exact HV.out
            · rw [HRUN.out, if_neg HD.out.2]; exact HVS.out
            · rw [HRUN.out, if_neg HD.out.2]; exact HVM.out
            · rw [HLAS.out, if_pos (by first | exact .inl HD.out.1 | exact .inr HD.out.1)]; exact HS.out.tail
          case measure => simp [intOf]; omega
        · have hnm' : decide ((num : Int) ≤ (mp : Int)) = false := by simp; omega
          have hn' : mp < (decOf (k, wh, num, sq)).num := by show mp < num; omega
          have hid : (afterL (decOf (k, wh, num, sq)).k (decOf (k, wh, num, sq)).fr (V, L).1, leftL (decOf (k, wh, num, sq)).k (V, L).1 (V, L).2) = (V.filter (fun x => !eqb x fr), L ++ [V]) := by rw [hdk, hdf]; rfl
          have HD := Hid.mk' (And.intro hdk (And.intro hn' hid))
          have hRv : Rd w3 u27 V := (show ∀ p ∈ P', Rd w3 p.1 p.2 from S3.p4.head) _ HV.out
          obtain ⟨xa, xc, hx⟩ := own_sliceB hRv
          obtain ⟨mn, hmn⟩ : ∃ mn, V.length = mn := ⟨_, rfl⟩
          rw [hmn] at hx
          subst hx
          have hvl : vs.length ≤ 800 := by have : vs.length = L.length := HVS.out; omega
          have hml : mn ≤ 800 := by omega
          obtain ⟨vn, hvn⟩ : ∃ vn, vs.length = vn := ⟨_, rfl⟩
          rw [hvn] at S3 hvl
          have HMN := Hid.mk' hmn
          have HVN := Hid.mk' hvn
          have S4 := S3.tail.quiet ((Keeps.refl (fun _ => False) w3).alloc (.cells #[.slice xa mn xc] 27))
          have hO : World.ownsRow _ 0 27 1 u28 vn vs := S4.head
          clear S3 hdk hdf hn' hid hRv hmn hvn
          go_wp2_with (at_builtin; refine wpList_app _ rfl (.tmp 201) (.tmp 203) 71 rfl 27 i27 (.slice none 0 0) 1 24 Yba.underlying71 hi27 hz27 hs27 hb27 rfl (by omega) u28 vn vs rfl hO 1 [.slice xa mn xc] (Src.one_new w3 _ _ rfl) (by unfold maxLen; omega) (by omega) ?_; intro x7 w7 hA7 hn7)
          have S5 := S4.app hA7
          have hRv7 : Rd w7 (.slice xa mn xc) V := (show ∀ p ∈ P', Rd w7 p.1 p.2 from S5.p3.head) _ HV.out
          clear S4 hO hA7 d2
          have S6 := S5.emptyAt 9
          clear S5 hRv7
          refine law6 S6.p4.p2 HV.out HMN.out (by omega) _ _ _ _ _ _ _ _ _ _ _ _ _ _ _ _ _ _ _ _ _ _ _ _ _ _ _ _ _ _ _ _ _ _ _ _ _ _ _ _ _ _ _ _ _ _ _ _ _ _ _ _ _ _ _ _ _ _ _ _ _ _ _ _ _ _ _ _ _ _ _ _ _ _ _ _ _ _ _ _ _ _ _ _ _ _ _ _ _ _ _ _ _ _ _ _ _ _ _ _ _ _ _ _ _ _ _ _ _ _ _ _ _ _ _ _ _ _ _ _ _ _ _ _ _ _ _ _ _ _ _ _ _ _ _ _ _ _ _ _ _ _ _ _ _ _ _ _ _ _ _ _ _ _ _ _ _ _ _ _ _ _ _ _ _ _ _ _ _ _ _ _ _ _ _ _ _ _ _ _ _ _ _ _ _ _ _ _ _ _ _ _ _ _ _ _ _ _ _ _ _ _ _ _ _ _ _ _ _ _ _ _ _ _ _ _ _ _ _ _ _ _ _ _ _ _ _ _ _ _ _ _ _ _ _ _ _ _ _ _ _ _ _ _ _ _ _ _ _ _ _ _ _ _ _ _ _ _ _ _ _ _ _ _ _ _ _ _ _ _ _ _ _ _ _ _ _ _ _ _ _ _ _ _ _ _ _ _ _ _ _ _ _ _ _ _ _ _ _ _ _ _ _ _ _ _ _ _ _ _ _ _ _ _ _ _ _ _ _ _ _ _ _ _ _ _ _ _ _ _ _ _ _ _ _ _ _ _ _ _ _ _ _ _ _ _ ?_
          intro u36 u38 u208 u209 u210 u211 u212 u213 u214 u215 u216 u217 u218 u219 w9 S9
          obtain ⟨fl, hfl⟩ : ∃ fl, V.filter (fun x => !eqb x fr) = fl := ⟨_, rfl⟩
          rw [hfl] at S9
          have S11 := S9.poolAdd.q3
          have HS := Hid.mk' S11
          have HFL := Hid.mk' hfl
          clear S9 S11 S6 hfl
          go_wp2
          go_roundw
          case rel =>
            refine ⟨i + 1, vs ++ [.slice xa mn xc], (u36, fl) :: P', by omega, by go_num, ?_, ?_, ?_, ?_, ?_⟩
            · exact fun p hp => List.mem_cons_of_mem _ (HSUB.out p hp)
            · rw [HRUN.out, if_pos HD.out.2.1, HD.out.2.2, HFL.out]; exact List.mem_cons_self
            · rw [HRUN.out, if_pos HD.out.2.1, HD.out.2.2, HFL.out]; exact (by have h2 : vs.length = L.length := HVS.out; simp [h2])
            · rw [HRUN.out, if_pos HD.out.2.1, HD.out.2.2, HFL.out]; exact (fun j hj => by
                by_cases hji : j < vs.length
                · have h1 := HVM.out j hji
                  have h2 : vs.length = L.length := HVS.out
                  rw [List.getD_eq_getElem?_getD, List.getElem?_append_left hji, ← List.getD_eq_getElem?_getD, List.getD_eq_getElem?_getD (l := L ++ [V]), List.getElem?_append_left (by rw [← h2]; exact hji), ← List.getD_eq_getElem?_getD]
                  exact List.mem_cons_of_mem _ h1
                · have h2 : vs.length = L.length := HVS.out
                  have e : j = vs.length := by simp at hj; omega
                  subst e
                  rw [List.getD_eq_getElem?_getD, List.getElem?_append_right (Nat.le_refl _), List.getD_eq_getElem?_getD (l := L ++ [V]), h2, List.getElem?_append_right (Nat.le_refl _)]
                  refine List.mem_cons_of_mem _ ?_
                  simpa using HV.out)
            · rw [HLAS.out, if_pos (by first | exact .inl HD.out.1 | exact .inr HD.out.1)]; exact (show Sep W0 _ (Res.row 27 1 x7 (vs ++ [Value.slice xa mn xc]).length (vs ++ [Value.slice xa mn xc]) :: _) by rw [show (vs ++ [Value.slice xa mn xc]).length = vn + 1 by rw [List.length_append, HVN.out]; rfl]; exact HS.out)
          case measure => simp [intOf]; omega
      · have h5 : (k : Int) % 5 = 3 := by omega
        have hdk : (decOf (k, wh, num, sq)).k = 5 := by show kd (k % 5) = 5; rw [h]; rfl
        have e0 : w1.cell? ⟨bk, 3, none⟩ = some (.int .u8 5) := cell_of_row w1 bk 3 _ 62 (0, 0) hbk
        clear hb1 hbk
        go_wp2_with fail
        refine (name_any w1 wh hwh).mono ?_
        rintro r w2 ⟨rfl, k2⟩
        have S2 := S1.quiet k2
        obtain ⟨fr, hfr⟩ : ∃ fr, nmB (wh % 6) = fr := ⟨_, rfl⟩
        have hdf : (decOf (k, wh, num, sq)).fr = fr := hfr
        rw [hfr]
        clear S1 d0 d1 e0 k2 hfr
        have hb2 : w2.heap[b33]? = _ := S2.head
        have d2 : w2.cell? ⟨b33, 2, none⟩ = some (.int .u64 num) := cell_of_row w2 b33 2 _ 64 (0, 0) hb2
        clear hb2
        by_cases hnm : num ≤ mp
        · have hnm' : decide ((num : Int) ≤ (mp : Int)) = true := by simp; omega
          have hn' : ¬ mp < (decOf (k, wh, num, sq)).num := by show ¬ mp < num; omega
          have HS := Hid.mk' S2
          have HD := Hid.mk' (And.intro hdk hn')
          clear S2 hdk hdf hn'
          go_wp2
          go_roundw
          case rel =>
            refine ⟨i + 1, vs, P', by omega, by go_num, ?_, ?_, ?_, ?_, ?_⟩
            · exact HSUB.out
            · rw [HRUN.out, if_neg HD.out.2]; exact HV.out
            · rw [HRUN.out, if_neg HD.out.2]; exact HVS.out
            · rw [HRUN.out, if_neg HD.out.2]; exact HVM.out
            · rw [HLAS.out, if_neg (by rw [HD.out.1]; omega)]; exact HS.out.tail
          case measure => simp [intOf]; omega
        · have hnm' : decide ((num : Int) ≤ (mp : Int)) = false := by simp; omega
          have hn' : mp < (decOf (k, wh, num, sq)).num := by show mp < num; omega
          have hid : (afterL (decOf (k, wh, num, sq)).k (decOf (k, wh, num, sq)).fr (V, L).1, leftL (decOf (k, wh, num, sq)).k (V, L).1 (V, L).2) = (V, []) := by rw [hdk]; rfl
          have S5 := S2.tail.tail.nilRow 27 1
          have HS := Hid.mk' S5
          have HD := Hid.mk' (And.intro hdk (And.intro hn' hid))
          clear S2 S5 hdk hdf hn' hid
          go_wp2
          go_roundw
          case rel =>
            refine ⟨i + 1, [], P', by omega, by go_num, ?_, ?_, ?_, ?_, ?_⟩
            · exact HSUB.out
            · rw [HRUN.out, if_pos HD.out.2.1, HD.out.2.2]; exact HV.out
            · rw [HRUN.out, if_pos HD.out.2.1, HD.out.2.2]; exact rfl
            · rw [HRUN.out, if_pos HD.out.2.1, HD.out.2.2]; exact (fun j hj => by simp at hj)
            · rw [HLAS.out, if_neg (by rw [HD.out.1]; omega)]; exact HS.out
          case measure => simp [intOf]; omega
      · have h5 : (k : Int) % 5 = 4 := by omega
        have hdk : (decOf (k, wh, num, sq)).k = 4 := by show kd (k % 5) = 4; rw [h]; rfl
        have e0 : w1.cell? ⟨bk, 4, none⟩ = some (.int .u8 4) := cell_of_row w1 bk 4 _ 62 (0, 0) hbk
        clear hb1 hbk
        go_wp2_with fail
        refine (name_any w1 wh hwh).mono ?_
        rintro r w2 ⟨rfl, k2⟩
        have S2 := S1.quiet k2
        obtain ⟨fr, hfr⟩ : ∃ fr, nmB (wh % 6) = fr := ⟨_, rfl⟩
        have hdf : (decOf (k, wh, num, sq)).fr = fr := hfr
        rw [hfr]
        clear S1 d0 d1 e0 k2 hfr
        have hb2 : w2.heap[b33]? = _ := S2.head
        have d2 : w2.cell? ⟨b33, 2, none⟩ = some (.int .u64 num) := cell_of_row w2 b33 2 _ 64 (0, 0) hb2
        clear hb2
        by_cases hnm : num ≤ mp
        · have hnm' : decide ((num : Int) ≤ (mp : Int)) = true := by simp; omega
          have hn' : ¬ mp < (decOf (k, wh, num, sq)).num := by show ¬ mp < num; omega
          have HS := Hid.mk' S2
          have HD := Hid.mk' (And.intro hdk hn')
          clear S2 hdk hdf hn'
          go_wp2
          go_roundw
          case rel =>
            refine ⟨i + 1, vs, P', by omega, by go_num, ?_, ?_, ?_, ?_, ?_⟩
            · exact HSUB.out
            · rw [HRUN.out, if_neg HD.out.2]; exact HV.out
            · rw [HRUN.out, if_neg HD.out.2]; exact HVS.out
            · rw [HRUN.out, if_neg HD.out.2]; exact HVM.out
            · rw [HLAS.out, if_neg (by rw [HD.out.1]; omega)]; exact HS.out.tail
          case measure => simp [intOf]; omega
        · have hnm' : decide ((num : Int) ≤ (mp : Int)) = false := by simp; omega
          have hn' : mp < (decOf (k, wh, num, sq)).num := by show mp < num; omega
          have hid : (afterL (decOf (k, wh, num, sq)).k (decOf (k, wh, num, sq)).fr (V, L).1, leftL (decOf (k, wh, num, sq)).k (V, L).1 (V, L).2) = (V, L) := by rw [hdk]; rfl
          have HS := Hid.mk' S2
          have HD := Hid.mk' (And.intro hdk (And.intro hn' hid))
          clear S2 hdk hdf hn' hid
          go_wp2
          go_roundw
          case rel =>
            refine ⟨i + 1, vs, P', by omega, by go_num, ?_, ?_, ?_, ?_, ?_⟩
            · exact HSUB.out
            · rw [HRUN.out, if_pos HD.out.2.1, HD.out.2.2]; exact HV.out
            · rw [HRUN.out, if_pos HD.out.2.1, HD.out.2.2]; exact HVS.out
            · rw [HRUN.out, if_pos HD.out.2.1, HD.out.2.2]; exact HVM.out
            · rw [HLAS.out, if_neg (by rw [HD.out.1]; omega)]; exact HS.out.tail
          case measure => simp [intOf]; omega
    · obtain rfl : i = n := by omega
      have HS := Hid.mk' S
      clear S
      go_wp2
      exact HEND.out _ _ _ _ _ _ _ _ _ _ _ _ _ _ _ _ _ _ _ _ _ _ _ _ _ _ _ _ _ _ _ _ _ _ _ _ _ _ _ _ _ _ _ _ _ _ _ _ _ _ _ _ _ _ _ _ _ _ _ _ _ _ _ _ _ _ _ _ _ _ vs P' ⟨HSUB.out, HV.out, HVS.out, HVM.out, HS.out⟩
end Go.Proofs.Ybulkcdkc
