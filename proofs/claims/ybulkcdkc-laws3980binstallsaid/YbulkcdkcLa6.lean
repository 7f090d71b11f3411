import Derived.Test.YbulkcdkcLw0
namespace Go.Proofs.Ybulkcdkc
open Go.RowKit

set_option maxHeartbeats 3200000 in
set_option maxRecDepth 1000000 in
theorem law6 {W0 w : World} {a : Option Addr} {n c : Nat} {v36 : Value} {who : ByteArray} {ss : List ByteArray} {P : List (Value × List ByteArray)} {rs : List Res} {Q : Exit → Act → World → Prop} (S : Sep W0 w (Res.row 9 1 v36 0 [] :: Res.pool P :: rs)) (hp : (.slice a n c, ss) ∈ P) (hl : ss.length = n) (hlen : n ≤ 1000) (c0 c1 c2 c3 c4 c5 c6 c7 c8 c9 c10 c11 c12 c13 c14 c15 c16 c17 c18 c19 c20 c21 c22 c23 c24 c25 c26 c27 c28 c29 c30 c31 c32 c33 c34 c37 c38 c39 c40 c41 c42 c43 c44 c45 c46 c47 c48 c49 c50 c51 c52 c53 c54 c55 c56 c57 c58 c59 c60 c61 c62 c63 c64 c65 c66 c67 c68 c69 c70 c71 c72 c73 c74 c75 c76 c77 c78 c79 c80 c81 c82 c83 c84 c85 c86 c87 c88 c89 c90 c91 c92 c93 c94 c95 c96 c97 c98 c99 c100 c101 c102 c103 c104 c105 c106 c107 c108 c109 c110 c111 c112 c113 c114 c115 c116 c117 c118 c119 c120 c121 c122 c123 c124 c125 c126 c127 c128 c129 c130 c131 c132 c133 c134 c135 c136 c137 c138 c139 c140 c141 c142 c143 c144 c145 c146 c147 c148 c149 c150 c151 c152 c153 c154 c155 c156 c157 c158 c159 c160 c161 c162 c163 c164 c165 c166 c167 c168 c169 c170 c171 c172 c173 c174 c175 c176 c177 c178 c179 c180 c181 c182 c183 c184 c185 c186 c187 c188 c189 c190 c191 c192 c193 c194 c195 c196 c197 c198 c199 c200 c201 c202 c203 c204 c205 c209 c210 c211 c212 c213 c214 c215 c216 c217 c218 c219 c220 c221 c222 c223 c224 c225 c226 c227 c228 c229 c230 c231 c232 c233 c234 c235 c236 c237 c238 c239 c240 c241 c242 c243 c244 c245 c246 c247 c248 c249 c250 c251 c252 c253 c254 c255 c256 c257 c258 c259 c260 c261 c262 c263 c264 c265 c266 c267 c268 c269 c270 c271 c272 c273 c274 c275 c276 c277 c278 c279 c280 c281 c282 c283 c284 c285 c286 c287 c288 c289 c290 c291 c292 c293 c294 c295 c296 c297 c298 c299 c300 c301 c302 c303 c304 c305 c306 c307 c308 c309 c310 c311 c312 c313 c314 c315 c316 c317 c318 c319 c320 c321 c322 c323 c324 c325 c326 c327 c328 c329 c330 c331 c332 c333 c334 c335 c336 c337 c338 c339 c340 c341 c342 c343 c344 c345 c346 c347 c348 c349 c350 : Value)
    (hend : ∀ (u36 u38 u208 u209 u210 u211 u212 u213 u214 u215 u216 u217 u218 u219 : Value) (wx : World), Sep W0 wx (Res.row 9 1 u36 ((ss).filter (fun x => !eqb x who)).length (strs ((ss).filter (fun x => !eqb x who))) :: Res.pool P :: rs) → Q (.exit 11) ⟨#[c0, c1, c2, c3, c4, c5, c6, c7, c8, c9, c10, c11, c12, c13, c14, c15, c16, c17, c18, c19, c20, c21, c22, c23, c24, c25, c26, c27, c28, c29, c30, c31, c32, c33, c34, .string who, u36, c37, u38, c39, c40, c41, c42, c43, c44, c45, c46, c47, c48, c49, c50, c51, c52, c53, c54, c55, c56, c57, c58, c59, c60, c61, c62, c63, c64, c65, c66, c67, c68, c69, c70, c71, c72, c73, c74, c75, c76, c77, c78, c79, c80, c81, c82, c83, c84, c85, c86, c87, c88, c89, c90, c91, c92, c93, c94, c95, c96, c97, c98, c99, c100, c101, c102, c103, c104, c105, c106, c107, c108, c109, c110, c111, c112, c113, c114, c115, c116, c117, c118, c119, c120, c121, c122, c123, c124, c125, c126, c127, c128, c129, c130, c131, c132, c133, c134, c135, c136, c137, c138, c139, c140, c141, c142, c143, c144, c145, c146, c147, c148, c149, c150, c151, c152, c153, c154, c155, c156, c157, c158, c159, c160, c161, c162, c163, c164, c165, c166, c167, c168, c169, c170, c171, c172, c173, c174, c175, c176, c177, c178, c179, c180, c181, c182, c183, c184, c185, c186, c187, c188, c189, c190, c191, c192, c193, c194, c195, c196, c197, c198, c199, c200, c201, c202, c203, c204, c205, .slice a n c, .int .i64 (n : Int), u208, u209, u210, u211, u212, u213, u214, u215, u216, u217, u218, u219, c220, c221, c222, c223, c224, c225, c226, c227, c228, c229, c230, c231, c232, c233, c234, c235, c236, c237, c238, c239, c240, c241, c242, c243, c244, c245, c246, c247, c248, c249, c250, c251, c252, c253, c254, c255, c256, c257, c258, c259, c260, c261, c262, c263, c264, c265, c266, c267, c268, c269, c270, c271, c272, c273, c274, c275, c276, c277, c278, c279, c280, c281, c282, c283, c284, c285, c286, c287, c288, c289, c290, c291, c292, c293, c294, c295, c296, c297, c298, c299, c300, c301, c302, c303, c304, c305, c306, c307, c308, c309, c310, c311, c312, c313, c314, c315, c316, c317, c318, c319, c320, c321, c322, c323, c324, c325, c326, c327, c328, c329, c330, c331, c332, c333, c334, c335, c336, c337, c338, c339, c340, c341, c342, c343, c344, c345, c346, c347, c348, c349, c350], []⟩ wx) :
    Code.wp Yba.prog (lawLoop 51) Q ⟨#[c0, c1, c2, c3, c4, c5, c6, c7, c8, c9, c10, c11, c12, c13, c14, c15, c16, c17, c18, c19, c20, c21, c22, c23, c24, c25, c26, c27, c28, c29, c30, c31, c32, c33, c34, .string who, v36, c37, c38, c39, c40, c41, c42, c43, c44, c45, c46, c47, c48, c49, c50, c51, c52, c53, c54, c55, c56, c57, c58, c59, c60, c61, c62, c63, c64, c65, c66, c67, c68, c69, c70, c71, c72, c73, c74, c75, c76, c77, c78, c79, c80, c81, c82, c83, c84, c85, c86, c87, c88, c89, c90, c91, c92, c93, c94, c95, c96, c97, c98, c99, c100, c101, c102, c103, c104, c105, c106, c107, c108, c109, c110, c111, c112, c113, c114, c115, c116, c117, c118, c119, c120, c121, c122, c123, c124, c125, c126, c127, c128, c129, c130, c131, c132, c133, c134, c135, c136, c137, c138, c139, c140, c141, c142, c143, c144, c145, c146, c147, c148, c149, c150, c151, c152, c153, c154, c155, c156, c157, c158, c159, c160, c161, c162, c163, c164, c165, c166, c167, c168, c169, c170, c171, c172, c173, c174, c175, c176, c177, c178, c179, c180, c181, c182, c183, c184, c185, c186, c187, c188, c189, c190, c191, c192, c193, c194, c195, c196, c197, c198, c199, c200, c201, c202, c203, c204, c205, .slice a n c, .int .i64 (n : Int), .int .i64 0, c209, c210, c211, c212, c213, c214, c215, c216, c217, c218, c219, c220, c221, c222, c223, c224, c225, c226, c227, c228, c229, c230, c231, c232, c233, c234, c235, c236, c237, c238, c239, c240, c241, c242, c243, c244, c245, c246, c247, c248, c249, c250, c251, c252, c253, c254, c255, c256, c257, c258, c259, c260, c261, c262, c263, c264, c265, c266, c267, c268, c269, c270, c271, c272, c273, c274, c275, c276, c277, c278, c279, c280, c281, c282, c283, c284, c285, c286, c287, c288, c289, c290, c291, c292, c293, c294, c295, c296, c297, c298, c299, c300, c301, c302, c303, c304, c305, c306, c307, c308, c309, c310, c311, c312, c313, c314, c315, c316, c317, c318, c319, c320, c321, c322, c323, c324, c325, c326, c327, c328, c329, c330, c331, c332, c333, c334, c335, c336, c337, c338, c339, c340, c341, c342, c343, c344, c345, c346, c347, c348, c349, c350], []⟩ w := by
  obtain ⟨i9, hi9, hz9, hs9, hb9⟩ := info_parts Yba.info9
  have HEND := Hid.mk' hend
  have HP := Hid.mk' hp
  have HL := Hid.mk' hl
  clear hend hp hl
  conv => arg 2; whnf
  dsimp only
  go_loopw [36, 38, 208] (fun v _ vi wx => ∃ i : Nat, i ≤ n ∧ vi = .int .i64 i ∧ Sep W0 wx (Res.row 9 1 v ((ss.take i).filter (fun x => !eqb x who)).length (strs ((ss.take i).filter (fun x => !eqb x who))) :: Res.pool P :: rs)) (fun _ _ vi _ => n - (intOf vi).toNat)
  case atStart => exact ⟨0, by omega, rfl, S⟩
  case round =>
    clear S
    obtain ⟨i, hi, rfl, S⟩ := hrel
    by_cases hlt : i < n
    · have y0 : (i : Int) < (n : Int) := by omega
      have y1 : (0 : Int) ≤ (i : Int) := by omega
      have hR : Rd wr (.slice a n c) ss := (show ∀ p ∈ P, Rd wr p.1 p.2 from S.tail.head) _ HP.out
      have hRn : wr.ownsRow 0 9 1 (.slice a n c) n (strs ss) := by have := hR; unfold Rd at this; rwa [HL.out] at this
      obtain ⟨g, cap, hg, -, -, hcell⟩ := own_atB hRn (by omega)
      injection hg with h1 _ h3
      subst h1
      subst h3
      obtain ⟨s, hs⟩ : ∃ s, ss.getD i ⟨#[]⟩ = s := ⟨_, rfl⟩
      have d0 : wr.cell? ⟨g, i, none⟩ = some (.string s) := by rw [(hcell i hlt).1, ← hs]; exact strs_get ss i (by have := HL.out; omega)
      have htk : ss.take (i + 1) = ss.take i ++ [s] := by
        rw [List.take_add_one, List.getElem?_eq_getElem (by have := HL.out; omega)]
        have : ss[i]'(by have := HL.out; omega) = s := by rw [← hs]; simp [show i < ss.length by have := HL.out; omega]
        rw [this]; rfl
      have hfl : ((ss.take (i + 1)).filter (fun x => !eqb x who)) = ((ss.take i).filter (fun x => !eqb x who)) ++ (if eqb s who then [] else [s]) := by
        rw [htk, List.filter_append]
        cases h : eqb s who <;> simp [h]
      have hln : ((ss.take i).filter (fun x => !eqb x who)).length ≤ n := Nat.le_trans (List.length_filter_le _ _) (by simp; have := HL.out; omega)
      obtain ⟨fl, hf⟩ : ∃ fl, ((ss.take i).filter (fun x => !eqb x who)) = fl := ⟨_, rfl⟩
      rw [hf] at S hfl hln
      have HF := Hid.mk' hfl
      clear hR hRn hcell hs htk hf hfl
      by_cases hx : s = who
      · subst hx
        have e0 : eqb s s = true := eqb_iff.2 rfl
        have HE := Hid.mk' e0
        clear e0
        go_wp2
        go_roundw
        case rel => exact ⟨i + 1, by omega, by go_num, by rw [HF.out, HE.out]; simpa using S⟩
        case measure => simp [intOf]; omega
      · have hx' : (s.toList == who.toList) = false := bytes_ne hx
        have e0 : eqb s who = false := eqb_ne hx
        have HE := Hid.mk' e0
        have S3 := S.quiet ((Keeps.refl (fun _ => False) wr).alloc (.cells #[.string s] 9))
        have hO : World.ownsRow _ 0 9 1 u36 fl.length (strs fl) := S3.head
        clear S e0
        go_wp2_with (at_builtin; refine wpList_app _ rfl (.tmp 215) (.tmp 217) 27 rfl 9 i9 (.string ⟨#[]⟩) 1 16 Yba.underlying27 hi9 hz9 hs9 hb9 rfl (by omega) u36 fl.length (strs fl) rfl hO 1 [.string s] (Src.one_new wr _ _ rfl) (by unfold maxLen; omega) (by omega) ?_; intro x7 w7 hA7 hn7)
        have S4 := S3.app hA7
        have HS4 := Hid.mk' S4
        clear S4 S3 hO hA7
        go_roundw
        case rel =>
          refine ⟨i + 1, by omega, by go_num, ?_⟩
          rw [HF.out, HE.out, if_neg (by simp), strs_append, show (fl ++ [s]).length = fl.length + 1 by simp]
          exact HS4.out
        case measure => simp [intOf]; omega
    · obtain rfl : i = n := by omega
      rw [List.take_of_length_le (by have := HL.out; omega)] at S
      have HS := Hid.mk' S
      clear S
      go_wp2
      exact HEND.out _ _ _ _ _ _ _ _ _ _ _ _ _ _ _ HS.out
end Go.Proofs.Ybulkcdkc
