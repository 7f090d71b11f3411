import Derived.Test.YbulkcdkcLw0
namespace Go.Proofs.Ybulkcdkc
open Go.RowKit

set_option maxHeartbeats 3200000 in
set_option maxRecDepth 1000000 in
theorem law1 {W0 w : World} {a : Option Addr} {len cap : Nat} {ms : List Nat} {P : List (Value × List ByteArray)} {rs : List Res} {Q : Exit → Act → World → Prop} (S : Sep W0 w (Res.row 31 2 (.slice none 0 0) 0 [] :: Res.pool P :: rs)) (hm : MkAt W0 a ms) (hl : ms.length = len) (hlen : len ≤ 300) (c0 c1 c2 c3 c4 c5 c6 c7 c8 c9 c10 c11 c12 c13 c14 c15 c16 c18 c19 c20 c21 c22 c23 c24 c25 c26 c27 c28 c29 c30 c31 c32 c33 c34 c35 c36 c37 c38 c39 c40 c41 c42 c43 c44 c45 c46 c47 c48 c49 c50 c51 c52 c53 c54 c55 c56 c57 c58 c62 c63 c64 c65 c66 c67 c68 c69 c70 c71 c72 c73 c74 c75 c76 c77 c78 c79 c80 c81 c82 c83 c84 c85 c86 c87 c88 c89 c90 c91 c92 c93 c94 c95 c96 c97 c98 c99 c100 c101 c102 c103 c104 c105 c106 c107 c108 c109 c110 c111 c112 c113 c114 c115 c116 c117 c118 c119 c120 c121 c122 c123 c124 c125 c126 c127 c128 c129 c130 c131 c132 c133 c134 c135 c136 c137 c138 c139 c140 c141 c142 c143 c144 c145 c146 c147 c148 c149 c150 c151 c152 c153 c154 c155 c156 c157 c158 c159 c160 c161 c162 c163 c164 c165 c166 c167 c168 c169 c170 c171 c172 c173 c174 c175 c176 c177 c178 c179 c180 c181 c182 c183 c184 c185 c186 c187 c188 c189 c190 c191 c192 c193 c194 c195 c196 c197 c198 c199 c200 c201 c202 c203 c204 c205 c206 c207 c208 c209 c210 c211 c212 c213 c214 c215 c216 c217 c218 c219 c220 c221 c222 c223 c224 c225 c226 c227 c228 c229 c230 c231 c232 c233 c234 c235 c236 c237 c238 c239 c240 c241 c242 c243 c244 c245 c246 c247 c248 c249 c250 c251 c252 c253 c254 c255 c256 c257 c258 c259 c260 c261 c262 c263 c264 c265 c266 c267 c268 c269 c270 c271 c272 c273 c274 c275 c276 c277 c278 c279 c280 c281 c282 c283 c284 c285 c286 c287 c288 c289 c290 c291 c292 c293 c294 c295 c296 c297 c298 c299 c300 c301 c302 c303 c304 c305 c306 c307 c308 c309 c310 c311 c312 c313 c314 c315 c316 c317 c318 c319 c320 c321 c322 c323 c324 c325 c326 c327 c328 c329 c330 c331 c332 c333 c334 c335 c336 c337 c338 c339 c340 c341 c342 c343 c344 c345 c346 c347 c348 c349 c350 : Value)
    (hend : ∀ (u17 u19 u61 u62 u63 u64 u65 u66 u67 u68 u69 u70 u71 : Value) (wx : World) (ps : List (Int × Value)) (P' : List (Value × List ByteArray)), (∀ p ∈ P, p ∈ P') ∧ ps.length = len ∧ (∀ j, j < len → (ps.getD j (0, undef)).1 = 1 ∧ ((ps.getD j (0, undef)).2, nl (ms.getD j 0) 6) ∈ P') ∧ Sep W0 wx (Res.row 31 2 u17 len (vcells ps) :: Res.pool P' :: rs) → Q (.exit 0) ⟨#[c0, c1, c2, c3, c4, c5, c6, c7, c8, c9, c10, c11, c12, c13, c14, c15, c16, u17, c18, u19, c20, c21, c22, c23, c24, c25, c26, c27, c28, c29, c30, c31, c32, c33, c34, c35, c36, c37, c38, c39, c40, c41, c42, c43, c44, c45, c46, c47, c48, c49, c50, c51, c52, c53, c54, c55, c56, c57, c58, .slice a len cap, .int .i64 (len : Int), u61, u62, u63, u64, u65, u66, u67, u68, u69, u70, u71, c72, c73, c74, c75, c76, c77, c78, c79, c80, c81, c82, c83, c84, c85, c86, c87, c88, c89, c90, c91, c92, c93, c94, c95, c96, c97, c98, c99, c100, c101, c102, c103, c104, c105, c106, c107, c108, c109, c110, c111, c112, c113, c114, c115, c116, c117, c118, c119, c120, c121, c122, c123, c124, c125, c126, c127, c128, c129, c130, c131, c132, c133, c134, c135, c136, c137, c138, c139, c140, c141, c142, c143, c144, c145, c146, c147, c148, c149, c150, c151, c152, c153, c154, c155, c156, c157, c158, c159, c160, c161, c162, c163, c164, c165, c166, c167, c168, c169, c170, c171, c172, c173, c174, c175, c176, c177, c178, c179, c180, c181, c182, c183, c184, c185, c186, c187, c188, c189, c190, c191, c192, c193, c194, c195, c196, c197, c198, c199, c200, c201, c202, c203, c204, c205, c206, c207, c208, c209, c210, c211, c212, c213, c214, c215, c216, c217, c218, c219, c220, c221, c222, c223, c224, c225, c226, c227, c228, c229, c230, c231, c232, c233, c234, c235, c236, c237, c238, c239, c240, c241, c242, c243, c244, c245, c246, c247, c248, c249, c250, c251, c252, c253, c254, c255, c256, c257, c258, c259, c260, c261, c262, c263, c264, c265, c266, c267, c268, c269, c270, c271, c272, c273, c274, c275, c276, c277, c278, c279, c280, c281, c282, c283, c284, c285, c286, c287, c288, c289, c290, c291, c292, c293, c294, c295, c296, c297, c298, c299, c300, c301, c302, c303, c304, c305, c306, c307, c308, c309, c310, c311, c312, c313, c314, c315, c316, c317, c318, c319, c320, c321, c322, c323, c324, c325, c326, c327, c328, c329, c330, c331, c332, c333, c334, c335, c336, c337, c338, c339, c340, c341, c342, c343, c344, c345, c346, c347, c348, c349, c350], []⟩ wx) :
    Code.wp Yba.prog (lawLoop 7) Q ⟨#[c0, c1, c2, c3, c4, c5, c6, c7, c8, c9, c10, c11, c12, c13, c14, c15, c16, .slice none 0 0, c18, c19, c20, c21, c22, c23, c24, c25, c26, c27, c28, c29, c30, c31, c32, c33, c34, c35, c36, c37, c38, c39, c40, c41, c42, c43, c44, c45, c46, c47, c48, c49, c50, c51, c52, c53, c54, c55, c56, c57, c58, .slice a len cap, .int .i64 (len : Int), .int .i64 0, c62, c63, c64, c65, c66, c67, c68, c69, c70, c71, c72, c73, c74, c75, c76, c77, c78, c79, c80, c81, c82, c83, c84, c85, c86, c87, c88, c89, c90, c91, c92, c93, c94, c95, c96, c97, c98, c99, c100, c101, c102, c103, c104, c105, c106, c107, c108, c109, c110, c111, c112, c113, c114, c115, c116, c117, c118, c119, c120, c121, c122, c123, c124, c125, c126, c127, c128, c129, c130, c131, c132, c133, c134, c135, c136, c137, c138, c139, c140, c141, c142, c143, c144, c145, c146, c147, c148, c149, c150, c151, c152, c153, c154, c155, c156, c157, c158, c159, c160, c161, c162, c163, c164, c165, c166, c167, c168, c169, c170, c171, c172, c173, c174, c175, c176, c177, c178, c179, c180, c181, c182, c183, c184, c185, c186, c187, c188, c189, c190, c191, c192, c193, c194, c195, c196, c197, c198, c199, c200, c201, c202, c203, c204, c205, c206, c207, c208, c209, c210, c211, c212, c213, c214, c215, c216, c217, c218, c219, c220, c221, c222, c223, c224, c225, c226, c227, c228, c229, c230, c231, c232, c233, c234, c235, c236, c237, c238, c239, c240, c241, c242, c243, c244, c245, c246, c247, c248, c249, c250, c251, c252, c253, c254, c255, c256, c257, c258, c259, c260, c261, c262, c263, c264, c265, c266, c267, c268, c269, c270, c271, c272, c273, c274, c275, c276, c277, c278, c279, c280, c281, c282, c283, c284, c285, c286, c287, c288, c289, c290, c291, c292, c293, c294, c295, c296, c297, c298, c299, c300, c301, c302, c303, c304, c305, c306, c307, c308, c309, c310, c311, c312, c313, c314, c315, c316, c317, c318, c319, c320, c321, c322, c323, c324, c325, c326, c327, c328, c329, c330, c331, c332, c333, c334, c335, c336, c337, c338, c339, c340, c341, c342, c343, c344, c345, c346, c347, c348, c349, c350], []⟩ w := by
  obtain ⟨i31, hi31, hz31, hs31, hb31⟩ := info_parts Yba.info31
  have HEND := Hid.mk' hend
  have HM := Hid.mk' hm
  have HL := Hid.mk' hl
  clear hend hm hl
  conv => arg 2; whnf
  dsimp only
  go_loopw [17, 19, 61] (fun v17 _ vi wx => ∃ (i : Nat) (ps : List (Int × Value)) (P' : List (Value × List ByteArray)), i ≤ len ∧ vi = .int .i64 i ∧ (∀ p ∈ P, p ∈ P') ∧ ps.length = i ∧ (∀ j, j < i → (ps.getD j (0, undef)).1 = 1 ∧ ((ps.getD j (0, undef)).2, nl (ms.getD j 0) 6) ∈ P') ∧ Sep W0 wx (Res.row 31 2 v17 i (vcells ps) :: Res.pool P' :: rs)) (fun _ _ vi _ => len - (intOf vi).toNat)
  case atStart => exact ⟨0, [], P, by omega, rfl, fun p hp => hp, rfl, (fun j hj => by omega), S⟩
  case round =>
    clear S
    obtain ⟨i, ps, P', hi, rfl, hsub, hpl, hps, S⟩ := hrel
    have HSUB := Hid.mk' hsub
    have HPL := Hid.mk' hpl
    have HPS := Hid.mk' hps
    clear hsub hpl hps
    by_cases hlt : i < len
    · have y0 : (i : Int) < (len : Int) := by omega
      have y1 : (0 : Int) ≤ (i : Int) := by omega
      obtain ⟨a0, ha, hc⟩ := (HM.out.keep S.base) i (by have := HL.out; omega)
      subst ha
      obtain ⟨mk, hmk⟩ : ∃ mk, ms.getD i 0 = mk := ⟨_, rfl⟩
      rw [hmk] at hc
      have HMK := Hid.mk' hmk
      have hnm := names_any S mk
      clear hmk
      go_wp2_with fail
      refine hnm.mono ?_
      rintro r w1 ⟨v, rfl, S1⟩
      clear hnm hc
      have hln := nl_len mk 6
      obtain ⟨ns, hns⟩ : ∃ ns, nl mk 6 = ns := ⟨_, rfl⟩
      rw [hns] at S1 hln
      have HNS := Hid.mk' hns
      obtain ⟨xa, xc, hx⟩ := own_sliceB (show w1.ownsRow 0 9 1 v ns.length _ from S1.head)
      subst hx
      have S2 := (S1.p3.p2.poolAdd).p2
      have S3 := (S2.newBlk #[.int .u64 1, .slice xa ns.length xc] 31).p2
      have hO : World.ownsRow _ 0 31 2 u17 i (vcells ps) := S3.head
      have hso := Src.cells (cs := #[.int .u64 1, .slice xa ns.length xc]) (t := 31) S3.tail.head (by simp [Value.oneCell'])
      clear S1 S2 S hns
      go_wp2_with (at_builtin; refine wpList_app _ rfl (.tmp 65) (.tmp 69) 29 rfl 31 i31 (.agg #[.int .u64 0, .slice none 0 0]) 2 32 Yba.underlying29 hi31 hz31 hs31 hb31 rfl (by omega) u17 i (vcells ps) rfl hO 1 [.int .u64 1, .slice xa ns.length xc] hso (by unfold maxLen; omega) (by omega) ?_; intro x7 w7 hA7 hn7)
      have S4 := (S3.app hA7).p2.tail
      have HS4 := Hid.mk' S4
      clear S4 S3 hO hso hA7
      go_roundw
      case rel =>
        refine ⟨i + 1, ps ++ [(1, .slice xa ns.length xc)], (.slice xa ns.length xc, ns) :: P', by omega, by go_num, fun p hp => List.mem_cons_of_mem _ (HSUB.out p hp), by simp [HPL.out], fun j hj => ?_, ?_⟩
        · by_cases hji : j < i
          · have := HPS.out j hji
            rw [List.getD_eq_getElem?_getD, List.getElem?_append_left (by rw [HPL.out]; exact hji), ← List.getD_eq_getElem?_getD]
            exact ⟨this.1, List.mem_cons_of_mem _ this.2⟩
          · obtain rfl : j = i := by omega
            rw [List.getD_eq_getElem?_getD, List.getElem?_append_right (by rw [HPL.out]; omega), HPL.out, HMK.out, HNS.out]
            simp
        · rw [vcells_append]
          exact HS4.out
      case measure => simp [intOf]; omega
    · obtain rfl : i = len := by omega
      have HS := Hid.mk' S
      clear S
      go_wp2
      exact HEND.out _ _ _ _ _ _ _ _ _ _ _ _ _ _ ps P' ⟨HSUB.out, HPL.out, HPS.out, HS.out⟩
end Go.Proofs.Ybulkcdkc
