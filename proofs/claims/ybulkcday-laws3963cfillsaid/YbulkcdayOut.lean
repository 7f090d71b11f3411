import Derived.Test.YbulkcdayIn
import Derived.Test.YbulkcdayNx
namespace Go.Proofs.Ybulkcday
open Go.RowKit

set_option maxHeartbeats 6400000 in
set_option maxRecDepth 1000000 in
theorem outer_loop (w0 : World) (inn : Bool) (n pp gc gn : Nat) (a0 : Addr) (len0 cap0 : Nat) (hn2 : 2 ≤ n) (hn100 : n ≤ 100) (hnl : n ≤ len0) (hz : ∀ i, i < len0 → ∃ z : Nat, z < 256 ∧ w0.cell? (a0.add i) = some (.int .u8 z))
    (v1 v3 v4 v5 v6 v8 v16 v17 v18 v19 v20 v21 v22 v23 v24 v25 v26 v27 v28 v29 v30 v31 v32 v33 v34 v35 v36 v37 v38 v39 v40 v41 v42 v43 v44 v45 v46 v47 v48 v49 v50 v51 v52 v53 v54 v55 v56 v57 v58 v59 v60 v61 v62 v63 v64 v65 v66 v67 v68 v69 v70 v71 v72 v73 v74 v75 v76 v77 v78 v79 v80 v81 v82 v83 v84 v85 v86 v87 v88 v89 v90 v91 v92 v93 v94 v95 v96 v97 v98 v99 v100 v101 v102 v103 v104 v105 v106 v107 v108 v109 v110 v111 v112 v113 v114 v115 v116 v117 v118 v119 v120 v121 v122 v123 v124 v125 v126 v127 v128 v129 v130 v131 v132 v133 v134 v135 v136 v137 v138 v139 v140 v141 v142 v143 v144 v145 v146 v147 v148 v149 v150 v151 v152 v153 v154 v155 v156 v157 v158 v159 v160 v161 v162 v163 v164 v165 v166 v167 v168 v169 v170 v171 v172 v173 v174 v175 v176 v177 v178 v179 v180 v181 v182 v183 v184 v185 v186 v187 v188 v189 v190 v191 v192 v193 v194 v195 v196 v197 v198 v199 v200 v201 v202 v203 v204 v205 v206 v207 v208 v209 v210 v211 v212 v213 v214 v215 v216 v217 v218 v219 v220 v221 v222 v223 v224 v225 v226 v227 v228 v229 v230 v231 v232 v233 v234 v235 v236 v237 v238 v239 v240 v241 v242 v243 v244 v245 v246 v247 v248 v249 v250 v251 v252 v253 v254 v255 v256 v257 v258 v259 v260 v261 v262 v263 v264 v265 v266 v267 v268 v269 v270 v271 v272 v273 v274 v275 v276 v277 v278 v279 v280 v281 v282 v283 v284 v285 v286 v287 v288 v289 v290 v291 v292 v293 v294 v295 v296 v297 v298 v299 v300 v301 v302 v303 v304 v305 v306 v307 v308 v309 v310 v311 v312 v313 v314 v315 v316 v317 v318 v319 v320 v321 v322 v323 v324 v325 v326 v327 v328 v329 v330 v331 v332 v333 v334 v335 v336 v337 v338 v339 v340 v341 v342 v343 v344 v345 v346 v347 v348 v349 v350 v351 v352 v353 v354 v355 v356 v357 v358 v359 v360 v361 v362 v363 v364 v365 v366 v367 v368 v369 v370 v371 v372 v373 v374 v375 v376 v377 v378 v379 v380 v381 v382 v383 v384 v385 v386 v387 v388 v389 v390 v391 v392 v393 v394 v395 v396 v397 v398 v399 v400 v401 v402 v403 v404 v405 v406 v407 v408 v409 v410 v411 v412 v413 v414 v415 v416 v417 v418 v419 v420 v421 v422 v423 v424 v425 v426 v427 v428 v429 v430 v431 v432 v433 v434 v435 v436 v437 : Value) (w : World) (B0 : Base w0 w inn n 0 pp gc gn [] [] (.slice none 0 0) (.slice none 0 0) (.slice none 0 0) (.slice none 0 0)) (Q0 : Exit → Act → World → Prop)
    (hexit : ∀ (u12 u13 u14 u16 u17 u18 u19 u20 u21 u22 u47 u48 u49 u50 u51 u52 u53 u54 u55 u56 u57 u58 u59 u60 u61 u62 u63 u64 u65 u66 u67 u68 u69 u70 u71 u72 u73 u74 u75 u76 u77 u78 u79 u80 u81 u82 u83 u84 u85 u86 u87 u88 u89 u90 u91 u92 u93 u94 u95 u96 u97 u98 u99 u100 u101 u102 u103 u104 u105 u106 u107 u108 u109 u110 u111 u112 u113 u114 u115 u116 u117 u118 u119 u120 u121 u122 u123 u124 u125 u126 u127 u128 u129 u130 u131 u132 u133 u134 u135 u136 u137 u138 u139 u140 u141 u142 u143 u144 u145 u146 u147 u148 u149 u150 u151 u152 u153 u154 u155 u156 u157 u158 u159 u160 u161 u162 u163 u164 u165 u166 u167 u168 u169 u170 u171 u172 u173 : Value) (wr : World) (kids : List K) (pks : List (List Value)) (vt ve : Value), Base w0 wr inn n n pp gc gn kids pks vt ve u12 u13 → Q0 (.exit 0) ⟨#[.slice (some a0) len0 cap0, v1, .bool inn, v3, v4, v5, v6, .int .i64 (n : Int), v8, .pointer (some ⟨pp, 0, none⟩), .slice (some ⟨gc, 0, none⟩) n n, .slice (some ⟨gn, 0, none⟩) n n, u12, u13, u14, .int .i64 (n : Int), u16, u17, u18, u19, u20, u21, u22, v23, v24, v25, v26, v27, v28, v29, v30, v31, v32, v33, v34, v35, v36, v37, v38, v39, v40, v41, v42, v43, v44, v45, v46, u47, u48, u49, u50, u51, u52, u53, u54, u55, u56, u57, u58, u59, u60, u61, u62, u63, u64, u65, u66, u67, u68, u69, u70, u71, u72, u73, u74, u75, u76, u77, u78, u79, u80, u81, u82, u83, u84, u85, u86, u87, u88, u89, u90, u91, u92, u93, u94, u95, u96, u97, u98, u99, u100, u101, u102, u103, u104, u105, u106, u107, u108, u109, u110, u111, u112, u113, u114, u115, u116, u117, u118, u119, u120, u121, u122, u123, u124, u125, u126, u127, u128, u129, u130, u131, u132, u133, u134, u135, u136, u137, u138, u139, u140, u141, u142, u143, u144, u145, u146, u147, u148, u149, u150, u151, u152, u153, u154, u155, u156, u157, u158, u159, u160, u161, u162, u163, u164, u165, u166, u167, u168, u169, u170, u171, u172, u173, v174, v175, v176, v177, v178, v179, v180, v181, v182, v183, v184, v185, v186, v187, v188, v189, v190, v191, v192, v193, v194, v195, v196, v197, v198, v199, v200, v201, v202, v203, v204, v205, v206, v207, v208, v209, v210, v211, v212, v213, v214, v215, v216, v217, v218, v219, v220, v221, v222, v223, v224, v225, v226, v227, v228, v229, v230, v231, v232, v233, v234, v235, v236, v237, v238, v239, v240, v241, v242, v243, v244, v245, v246, v247, v248, v249, v250, v251, v252, v253, v254, v255, v256, v257, v258, v259, v260, v261, v262, v263, v264, v265, v266, v267, v268, v269, v270, v271, v272, v273, v274, v275, v276, v277, v278, v279, v280, v281, v282, v283, v284, v285, v286, v287, v288, v289, v290, v291, v292, v293, v294, v295, v296, v297, v298, v299, v300, v301, v302, v303, v304, v305, v306, v307, v308, v309, v310, v311, v312, v313, v314, v315, v316, v317, v318, v319, v320, v321, v322, v323, v324, v325, v326, v327, v328, v329, v330, v331, v332, v333, v334, v335, v336, v337, v338, v339, v340, v341, v342, v343, v344, v345, v346, v347, v348, v349, v350, v351, v352, v353, v354, v355, v356, v357, v358, v359, v360, v361, v362, v363, v364, v365, v366, v367, v368, v369, v370, v371, v372, v373, v374, v375, v376, v377, v378, v379, v380, v381, v382, v383, v384, v385, v386, v387, v388, v389, v390, v391, v392, v393, v394, v395, v396, v397, v398, v399, v400, v401, v402, v403, v404, v405, v406, v407, v408, v409, v410, v411, v412, v413, v414, v415, v416, v417, v418, v419, v420, v421, v422, v423, v424, v425, v426, v427, v428, v429, v430, v431, v432, v433, v434, v435, v436, v437], []⟩ wr) :
    Code.wp Yba.prog (Code.loop (bodyOf 0)) Q0 ⟨#[.slice (some a0) len0 cap0, v1, .bool inn, v3, v4, v5, v6, .int .i64 (n : Int), v8, .pointer (some ⟨pp, 0, none⟩), .slice (some ⟨gc, 0, none⟩) n n, .slice (some ⟨gn, 0, none⟩) n n, .slice none 0 0, .slice none 0 0, .int .i64 0, .int .i64 0, v16, v17, v18, v19, v20, v21, v22, v23, v24, v25, v26, v27, v28, v29, v30, v31, v32, v33, v34, v35, v36, v37, v38, v39, v40, v41, v42, v43, v44, v45, v46, v47, v48, v49, v50, v51, v52, v53, v54, v55, v56, v57, v58, v59, v60, v61, v62, v63, v64, v65, v66, v67, v68, v69, v70, v71, v72, v73, v74, v75, v76, v77, v78, v79, v80, v81, v82, v83, v84, v85, v86, v87, v88, v89, v90, v91, v92, v93, v94, v95, v96, v97, v98, v99, v100, v101, v102, v103, v104, v105, v106, v107, v108, v109, v110, v111, v112, v113, v114, v115, v116, v117, v118, v119, v120, v121, v122, v123, v124, v125, v126, v127, v128, v129, v130, v131, v132, v133, v134, v135, v136, v137, v138, v139, v140, v141, v142, v143, v144, v145, v146, v147, v148, v149, v150, v151, v152, v153, v154, v155, v156, v157, v158, v159, v160, v161, v162, v163, v164, v165, v166, v167, v168, v169, v170, v171, v172, v173, v174, v175, v176, v177, v178, v179, v180, v181, v182, v183, v184, v185, v186, v187, v188, v189, v190, v191, v192, v193, v194, v195, v196, v197, v198, v199, v200, v201, v202, v203, v204, v205, v206, v207, v208, v209, v210, v211, v212, v213, v214, v215, v216, v217, v218, v219, v220, v221, v222, v223, v224, v225, v226, v227, v228, v229, v230, v231, v232, v233, v234, v235, v236, v237, v238, v239, v240, v241, v242, v243, v244, v245, v246, v247, v248, v249, v250, v251, v252, v253, v254, v255, v256, v257, v258, v259, v260, v261, v262, v263, v264, v265, v266, v267, v268, v269, v270, v271, v272, v273, v274, v275, v276, v277, v278, v279, v280, v281, v282, v283, v284, v285, v286, v287, v288, v289, v290, v291, v292, v293, v294, v295, v296, v297, v298, v299, v300, v301, v302, v303, v304, v305, v306, v307, v308, v309, v310, v311, v312, v313, v314, v315, v316, v317, v318, v319, v320, v321, v322, v323, v324, v325, v326, v327, v328, v329, v330, v331, v332, v333, v334, v335, v336, v337, v338, v339, v340, v341, v342, v343, v344, v345, v346, v347, v348, v349, v350, v351, v352, v353, v354, v355, v356, v357, v358, v359, v360, v361, v362, v363, v364, v365, v366, v367, v368, v369, v370, v371, v372, v373, v374, v375, v376, v377, v378, v379, v380, v381, v382, v383, v384, v385, v386, v387, v388, v389, v390, v391, v392, v393, v394, v395, v396, v397, v398, v399, v400, v401, v402, v403, v404, v405, v406, v407, v408, v409, v410, v411, v412, v413, v414, v415, v416, v417, v418, v419, v420, v421, v422, v423, v424, v425, v426, v427, v428, v429, v430, v431, v432, v433, v434, v435, v436, v437], []⟩ w := by
  obtain ⟨i24, hi24, hz24, hs24, hb24⟩ := info_parts Yba.info24
  obtain ⟨i3, hi3, hz3, hs3, hb3⟩ := info_parts Yba.info3
  obtain ⟨i5, hi5, hz5, hs5, hb5⟩ := info_parts Yba.info5
  obtain ⟨i9, hi9, hz9, hs9, hb9⟩ := info_parts Yba.info9
  conv => arg 2; arg 1; whnf
  conv => arg 4; zeta
  go_loopw [12, 13, 14, 15, 16, 17, 18, 19, 20, 21, 22] (fun vO vG t j _ _ _ _ _ _ _ wr => ∃ (m tn : Nat) (kids : List K) (pks : List (List Value)) (vt ve : Value), m ≤ n ∧ j = .int .i64 m ∧ t = .int .i64 tn ∧ tn = (inord (kids.map K.ks) pks).length ∧ tn ≤ 40 * m ∧ (allKids kids).length ≤ 40 * m ∧ Base w0 wr inn n m pp gc gn kids pks vt ve vO vG) (fun _ _ _ j _ _ _ _ _ _ _ _ => n - (intOf j).toNat)
  case atStart => exact ⟨0, 0, [], [], _, _, by omega, rfl, rfl, rfl, by omega, by simp [allKids], B0⟩
  case round =>
    clear B0
    obtain ⟨m, tn, kids, pks, vt, ve, hm, rfl, rfl, htn, htl, hgl, B⟩ := hrel
    by_cases hlt : m < n
    · clear hexit
      obtain ⟨z, hz256, hzc⟩ := hz m (by omega)
      have d0 : wr.cell? (a0.add m) = some (.int .u8 z) := (B.sep.base.cell (World.block_lt_of_cell? w0 _ hzc) (fun h => h)).trans hzc
      clear hz hzc
      have c1 : (m : Int) < (n : Int) := by omega
      have c2 : (m : Int) < (len0 : Int) := by omega
      have c3 : (0 : Int) ≤ (m : Int) := by omega
      have Sc := B.sep.p5
      have hrl : (ivals (counts kids) ++ List.replicate (n - m) (Value.int .i64 0)).length = n := by have := B.kl; simp [ivals, counts]; omega
      obtain ⟨cn, hcn, hcn0, hcn1⟩ : ∃ cn : Nat, (29 : Int) + (z : Int) % 5 = (cn : Int) ∧ 29 ≤ cn ∧ cn ≤ 33 := ⟨29 + z % 5, by omega, by omega, by omega⟩
      have Sc' := Sc.store hrl m (.int .i64 (cn : Int))
      obtain ⟨hcv, hcf⟩ := Sc.cellAt hrl m hlt
      go_upto_region 18 with fail
      generalize (wr.setCell ⟨gn, m, none⟩ (.int .i64 (cn : Int))) = w2 at *
      clear d0 hcv hcf Sc c2
      have S2 := Sc'.q3.add (r := Res.w w2.heap.size (.slice none 0 0) (.slice none 0 0) (.slice none 0 0) [] [] []) (Rw.new w2) ((Keeps.refl _ w2).alloc _) (fun b hb => by rcases hb with h | h | h | h; omega; all_goals (simp [Value.ownBlock] at h))
      clear Sc'
      go_wp2
      generalize hw3 : (w2.alloc (.cells #[.slice none 0 0, .slice none 0 0, .slice none 0 0, .int .u64 0] 30)) = w3 at *
      clear hw3
      generalize w2.heap.size = pc at *
      refine inner_loop w0 inn cn pc tn (inord (kids.map K.ks) pks) (allKids kids) _ hcn1 (by omega) htn.symm (by omega) _ _ _ _ _ _ _ _ _ _ _ _ _ _ _ _ _ _ _ _ _ _ _ _ _ _ _ _ _ _ _ _ _ _ _ _ _ _ _ _ _ _ _ _ _ _ _ _ _ _ _ _ _ _ _ _ _ _ _ _ _ _ _ _ _ _ _ _ _ _ _ _ _ _ _ _ _ _ _ _ _ _ _ _ _ _ _ _ _ _ _ _ _ _ _ _ _ _ _ _ _ _ _ _ _ _ _ _ _ _ _ _ _ _ _ _ _ _ _ _ _ _ _ _ _ _ _ _ _ _ _ _ _ _ _ _ _ _ _ _ _ _ _ _ _ _ _ _ _ _ _ _ _ _ _ _ _ _ _ _ _ _ _ _ _ _ _ _ _ _ _ _ _ _ _ _ _ _ _ _ _ _ _ _ _ _ _ _ _ _ _ _ _ _ _ _ _ _ _ _ _ _ _ _ _ _ _ _ _ _ _ _ _ _ _ _ _ _ _ _ _ _ _ _ _ _ _ _ _ _ _ _ _ _ _ _ _ _ _ _ _ _ _ _ _ _ _ _ _ _ _ _ _ _ _ _ _ _ _ _ _ _ _ _ _ _ _ _ _ _ _ _ _ _ _ _ _ _ _ _ _ _ _ _ _ _ _ _ _ _ _ _ _ _ _ _ _ _ _ _ _ _ _ _ _ _ _ _ _ _ _ _ _ _ _ _ _ _ _ _ _ _ _ _ _ _ _ _ _ _ _ _ _ _ _ _ _ _ _ _ _ _ _ _ _ _ _ _ _ _ _ _ _ _ _ _ _ _ _ _ _ _ _ _ _ _ _ _ _ _ _ _ _ _ _ _ _ _ _ _ _ _ _ _ _ _ _ _ _ _ _ _ _ _ _ _ _ _ _ _ _ _ _ _ _ _ _ _ _ _ _ _ _ _ _ _ _ _ _ _ _ _ _ _ _ _ _ _ _ _ _ _ _ w3 ⟨by rw [List.append_nil, List.append_nil]; exact S2, (fun k h => by cases h), (fun _ => ⟨rfl, rfl⟩), (fun k h => by cases h)⟩ _ ?_
      clear S2
      intro y12 y13 y19 y20 y65 y66 y67 y68 y69 y70 y71 y72 y73 y74 y75 y76 y77 y78 y79 y80 y81 y82 y83 y84 y85 y86 y87 y88 y89 y90 y91 y92 y93 y94 y95 y96 y97 y98 y99 y100 y101 y102 y103 y104 y105 y106 y107 y108 y109 y110 y111 y112 y113 y114 y115 y116 y117 w4 ct ce ck cks G tk htk hckl I hG
      conv => zeta
      have HTK := Hid.mk' htk
      have HTN := Hid.mk' htn
      have HCK := Hid.mk' hckl
      have htk4 : tk ≤ 5000 := by omega
      have hckl33 : cks.length ≤ 33 := by omega
      have hckl0 : 0 < cks.length := by omega
      have hseqB : (inord (kids.map K.ks) pks).length ≤ 4000 := by omega
      have hgsB : (allKids kids).length ≤ 4000 := by omega
      clear htk htn hckl
      go_upto_if 118 with fail
      go_cut [13, 21] from 47 to 173 (fun vG' _ wc => ∃ ck' G', Sep w0 wc (Res.w pc ct ce ck' cks.flatten (ivals (endsF 0 cks)) G' :: Res.row 9 y12 (oks (inord (kids.map K.ks) pks ++ cks)) :: Res.row 24 vG' (allKids kids ++ G') :: Res.row 3 (.slice (some ⟨gn, 0, none⟩) n n) ((ivals (counts kids) ++ List.replicate (n - m) (Value.int .i64 0)).set m (.int .i64 (cn : Int))) :: Res.w pp vt ve (.slice none 0 0) pks.flatten (ivals (endsF 0 pks)) [] :: Res.row 24 (.slice (some ⟨gc, 0, none⟩) n n) (kids.map K.ptr ++ List.replicate (n - m) (Value.pointer none)) :: kids.map Res.k) ∧ (inn = false → ck' = .slice none 0 0 ∧ G' = []) ∧ (∀ u ∈ G', ∃ a, u = Value.pointer (some a)) ∧ (inn = true → G'.length = cn + 1))
      case first =>
        cases inn with
        | false =>
          go_wp2
          go_meet
          case rel => exact ⟨ck, G, I.sep, fun _ => I.lf0 rfl, I.ptr, fun h => by cases h⟩
        | true =>
          have hG' := hG rfl
          have HG := Hid.mk' hG'
          have hGl : G.length ≤ 33 := by omega
          clear hG' hG
          generalize hrest : (Res.row 3 (.slice (some ⟨gn, 0, none⟩) n n) ((ivals (counts kids) ++ List.replicate (n - m) (Value.int .i64 0)).set m (.int .i64 (cn : Int))) :: Res.w pp vt ve (.slice none 0 0) pks.flatten (ivals (endsF 0 pks)) [] :: Res.row 24 (.slice (some ⟨gc, 0, none⟩) n n) (kids.map K.ptr ++ List.replicate (n - m) (Value.pointer none)) :: kids.map Res.k) = rest at *
          clear hrest
          have kn1 := (Keeps.refl (fun _ => False) w4).alloc (.cells #[.slice none 0 0, .slice none 0 0, .slice none 0 0, .int .u64 0] 30)
          have S3 := I.sep.quiet kn1
          go_upto_region 33 with fail
          generalize (w4.alloc (.cells #[.slice none 0 0, .slice none 0 0, .slice none 0 0, .int .u64 0] 30)) = w5 at *
          have ko := (Keeps.refl (fun _ => False) w5).alloc (.cells #[Value.pointer (some ⟨w4.heap.size, 0, none⟩)] 24)
          have S4 := S3.quiet ko
          have hR4 := S4.head
          obtain ⟨e0, e1, e2, ef⟩ := Rw.cells S3.head
          go_upto_region 34 with (at_builtin; refine wpList_app _ rfl (.tmp 125) (.tmp 127) 27 rfl 24 i24 (.pointer none) 1 8 Yba.underlying27 hi24 hz24 hs24 hb24 rfl (by omega) ck G.length G rfl hR4.kid 1 [.pointer (some ⟨w4.heap.size, 0, none⟩)] (Src.one_new w5 _ _ rfl) (by unfold maxLen; omega) (by omega) ?_; intro x5 w6 hA5 hn5; obtain ⟨ao5, cp5, rfl⟩ := own_slice hA5.own; obtain ⟨-, -, g2, gf⟩ := Rw.after hR4 hA5 hR4.pk; have gf2 := gf 2)
          have S5 := S4.st2 hA5
          generalize (w6.setCell ⟨pc, 2, none⟩ (.slice ao5 (G.length + 1) cp5)) = w7 at *
          have ko2 := (Keeps.refl (fun _ => False) w7).alloc (.cells #[Value.pointer (some ⟨w4.heap.size, 0, none⟩)] 24)
          have S6 := (S5.quiet ko2).p3
          have hg6 : (w7.alloc (.cells #[Value.pointer (some ⟨w4.heap.size, 0, none⟩)] 24)).ownsRow 0 24 1 y13 (allKids kids ++ G).length (allKids kids ++ G) := S6.head
          have hgl6 : (allKids kids ++ G).length ≤ 5000 := by rw [List.length_append]; omega
          clear S5 S4 S3 e0 e1 e2 ef g2 gf gf2 hR4
          go_wp2_with (at_builtin; refine wpList_app _ rfl (.tmp 131) (.tmp 133) 27 rfl 24 i24 (.pointer none) 1 8 Yba.underlying27 hi24 hz24 hs24 hb24 rfl (by omega) y13 (allKids kids ++ G).length (allKids kids ++ G) rfl hg6 1 [.pointer (some ⟨w4.heap.size, 0, none⟩)] (Src.one_new w7 _ _ rfl) (by unfold maxLen; omega) (by omega) ?_; intro x7 w8 hA7 hn7)
          have S7 := (S6.app hA7).q3
          rw [List.append_assoc] at S7
          go_meet
          case rel => exact ⟨_, _, S7, (fun h => by cases h), (fun u hu => by rcases List.mem_append.1 hu with h | h; exact I.ptr u h; exact ⟨_, by simpa using h⟩), fun _ => by rw [List.length_append, HG.out]; rfl⟩
      case rest =>
        obtain ⟨ck', G', S5, hlf, hptr, hG'⟩ := hcut
        have hpst := I.pst
        clear I hG
        obtain ⟨gt, ct', ge, ce', S6⟩ := S5.built hckl0 hpst (by omega) (fun u hu => by obtain ⟨a, rfl⟩ := hptr u hu; exact ⟨_, rfl⟩)
        clear S5
        generalize hkc : K.mk pc gt ct' ge ce' ck' cks G' = kc at S6
        have hkp : kc.ptr = .pointer (some ⟨pc, 0, none⟩) := by rw [← hkc]; rfl
        have hkk : kc.ks = cks := by rw [← hkc]
        have hkg : kc.gs = G' := by rw [← hkc]
        have hkv : kc.vk = ck' := by rw [← hkc]
        have S7 := S6.p6
        have hrl2 : (kids.map K.ptr ++ List.replicate (n - m) (Value.pointer none)).length = n := by have := B.kl; simp; omega
        have S8 := S7.store hrl2 m (.pointer (some ⟨pc, 0, none⟩))
        obtain ⟨hcv, hcf⟩ := S7.cellAt hrl2 m hlt
        go_upto_region 36 with fail
        generalize (wc.setCell ⟨gc, m, none⟩ (.pointer (some ⟨pc, 0, none⟩))) = w9 at *
        clear hcv hcf S6 S7
        have hkst : ∀ k ∈ kc.ks, IsStr k := fun k hk => (hpst k (by rw [← hkk]; exact hk)).1
        have hkcn : 29 ≤ kc.ks.length ∧ kc.ks.length ≤ 33 := by rw [hkk, HCK.out]; omega
        have hklf : Lf inn kc := ⟨fun e => by rw [hkv, hkg]; exact hlf e, fun e => by rw [hkg, hG' e, hkk, HCK.out]⟩
        have hkpt : ∀ u ∈ kc.gs, ∃ a, u = Value.pointer (some a) := by rw [hkg]; exact hptr
        have hcl : (cn : Int) = (kc.ks.length : Int) := by rw [hkk, HCK.out]
        rw [← hkp, hcl, ← hkg] at S8
        have HK1 := Hid.mk' hkk
        have HK2 := Hid.mk' hkp
        have hBk := B.kl
        have hBp := B.pl
        have hal : (allKids (kids ++ [kc])).length ≤ 40 * (m + 1) := by
          have : allKids (kids ++ [kc]) = allKids kids ++ kc.gs := by unfold allKids; simp
          rw [this, List.length_append]
          cases inn with
          | false => rw [(hklf.1 rfl).2]; simp; omega
          | true => rw [hklf.2 rfl]; omega
        clear hkc hkp hkk hkg hkv hcl hlf hptr hG'
        by_cases hl1 : m + 1 < n
        · have hd : decide ((m : Int) < (n : Int) - 1) = true := by simp; omega
          have hpps := B.pst
          have hfl : pks.flatten.length ≤ 10000 := by
            have := flat_le (ks := pks) (fun k hk => (hpps k hk).2); omega
          have hZl : (ivals (endsF 0 pks)).length ≤ 100 := by simp [ivals, endsF_length]; omega
          have S9 := S8.p6
          clear S8
          generalize hX : pks.flatten = X at *
          generalize hZ : ivals (endsF 0 pks) = Z at *
          generalize hO : oks (inord (kids.map K.ks) pks ++ cks) = O at *
          have hOl : O.length ≤ 5000 := by rw [← hO, oks_length, List.length_append]; omega
          have HX := Hid.mk' hX
          have HZ := Hid.mk' hZ
          have HO := Hid.mk' hO
          clear hX hZ hO
          go_wp2_with fail
          refine (ckey_any tk (by omega)).mono ?_
          rintro r w10 ⟨s, rfl, hs0, hs1, k6⟩
          have S10 := S9.quiet k6
          have hR6 := S10.head
          obtain ⟨e0, e1, e2, ef⟩ := Rw.cells hR6
          have ef0 := ef 0
          clear S9 k6
          go_upto_region 40 with (at_builtin; refine wpList_app_string _ rfl (.tmp 151) (.tmp 152) 25 9 rfl 5 i5 Yba.underlying25 Yba.underlying9 hi5 hz5 hs5 hb5 vt X.length X rfl hR6.txt s rfl (by unfold maxLen; omega) (by omega) ?_; intro x7 w7 hA7 hn7; obtain ⟨g0, -, -, gf⟩ := Rw.after hR6 hA7 hR6.pt; have gf0 := gf 0; obtain ⟨gt7, ct7, rfl, -, -, -, -, -⟩ := own_some hA7.own (by omega))
          have S11 := S10.st0 hA7
          generalize (w7.setCell ⟨pp, 0, none⟩ (.slice (some ⟨gt7, 0, none⟩) (X.length + s.size) ct7)) = w8 at *
          clear S10 hR6 e0 e1 e2 ef ef0 g0 gf gf0 hA7
          have ko := ((Keeps.refl (fun _ => False) w8).alloc (.cells #[Value.int .i64 ((X.length : Int) + (s.size : Int))] 3)).drew
          have S12 := S11.quiet ko
          have hR8 := S12.head
          obtain ⟨e0, e1, e2, ef⟩ := Rw.cells S11.head
          obtain ⟨a0', a1', a2', af⟩ := Rw.cells hR8
          have hso : Src ((w8.alloc (.cells #[Value.int .i64 ((X.length : Int) + (s.size : Int))] 3)).drew) 1 (.slice (some ⟨w8.heap.size, 0, none⟩) 1 1) 1 [.int .i64 ((X.length : Int) + (s.size : Int))] := Src.one_new w8.drew (.int .i64 ((X.length : Int) + (s.size : Int))) 3 rfl
          clear ef af e2 a2'
          generalize hrest2 : (Res.row 24 (.slice (some ⟨gc, 0, none⟩) n n) ((kids.map K.ptr ++ List.replicate (n - m) (Value.pointer none)).set m kc.ptr) :: Res.k kc :: Res.row 9 y12 O :: Res.row 24 u13 (allKids kids ++ kc.gs) :: Res.row 3 (.slice (some ⟨gn, 0, none⟩) n n) ((ivals (counts kids) ++ List.replicate (n - m) (Value.int .i64 0)).set m (.int .i64 (kc.ks.length : Int))) :: kids.map Res.k) = rest2 at *
          have HR2 := Hid.mk' hrest2
          clear hrest2
          go_cut [] from 47 to 173 (fun wc => ∃ ge9, Sep w0 wc (Res.w pp (.slice (some ⟨gt7, 0, none⟩) (X.length + s.size) ct7) ge9 (.slice none 0 0) (X ++ Lib.strCells s) (Z ++ [.int .i64 ((X.length : Int) + (s.size : Int))]) [] :: rest2))
          case first =>
            refine wp_region_noPanic ?_
            go_region_law ((refine step_app rfl (.tmp 160) (.tmp 166) 26 rfl 3 i3 (.int .i64 0) 1 8 Yba.underlying26 hi3 hz3 hs3 hb3 rfl (by omega) ve Z.length Z rfl hR8.ens (.slice (some ⟨w8.heap.size, 0, none⟩) 1 1) rfl 1 [.int .i64 ((X.length : Int) + (s.size : Int))] hso (by unfold maxLen; omega) (by omega) ?_; intro x9 w9' hA9 hn9; obtain ⟨ao9, cp9, rfl⟩ := own_slice hA9.own; obtain ⟨g0, g1, -, gf⟩ := Rw.after hR8 hA9 hR8.pe; have gf1 := gf 1))
            all_goals
              have S13 := S12.st1 hA9
              refine NoPanic.normal ?_
              go_wp2
              go_meet
              case rel => exact ⟨_, S13⟩
          case rest =>
            obtain ⟨ge9, S13⟩ := hcut
            clear S11 S12 hR8 e0 e1 a0' a1' hso ko
            have ko := (Keeps.refl (fun _ => False) wc).alloc (.cells #[Value.string s] 9)
            rw [← HR2.out] at S13
            have S14 := (S13.quiet ko).p4
            have hO10 : (wc.alloc (.cells #[Value.string s] 9)).ownsRow 0 9 1 y12 O.length O := S14.head
            go_wp2_with (at_builtin; refine wpList_app _ rfl (.tmp 170) (.tmp 172) 22 rfl 9 i9 (.string ⟨#[]⟩) 1 16 Yba.underlying22 hi9 hz9 hs9 hb9 rfl (by omega) y12 O.length O rfl hO10 1 [.string s] (Src.one_new wc _ _ rfl) (by unfold maxLen; omega) (by omega) ?_; intro x11 w11 hA11 hn11)
            have S15 := (S14.app hA11).p4.p6.p5.p5.p6.p6
            have E1 : X ++ Lib.strCells s = (pks ++ [Lib.strCells s]).flatten := by rw [← HX.out]; simp
            have E2 : Z ++ [.int .i64 ((X.length : Int) + (s.size : Int))] = ivals (endsF 0 (pks ++ [Lib.strCells s])) := by
              rw [← HZ.out, ← HX.out, endsF_append]
              simp only [endsF, Nat.zero_add, Lib.strCells_length, ivals, List.map_append, List.map_cons, List.map_nil, Int.natCast_add]
            have e1 : inord ((kids ++ [kc]).map K.ks) (pks ++ [Lib.strCells s]) = inord (kids.map K.ks) pks ++ (cks ++ [Lib.strCells s]) := by
              rw [List.map_append]
              show inord (kids.map K.ks ++ [kc.ks]) _ = _
              rw [HK1.out]
              exact inord_next _ _ _ _ (by simp; omega)
            have E3 : O ++ [.string s] = oks (inord ((kids ++ [kc]).map K.ks) (pks ++ [Lib.strCells s])) := by
              rw [e1, ← HO.out, ← List.append_assoc, oks_append (inord (kids.map K.ks) pks ++ cks)]; simp [oks, unS_str]
            rw [E1, E2, E3] at S15
            have B' : Base w0 w11 inn n (m + 1) pp gc gn (kids ++ [kc]) (pks ++ [Lib.strCells s]) (.slice (some ⟨gt7, 0, none⟩) (X.length + s.size) ct7) ge9 x11 u13 := by
              refine base_next B hlt S15 (by simp; omega) (fun k hk => ?_) hkst hkcn hklf hkpt
              rcases List.mem_append.1 hk with h | h
              · exact hpps k h
              · simp at h; subst h; exact ⟨isStr_str s, by rw [Lib.strCells_length]; exact ⟨hs0, hs1⟩⟩
            go_roundw
            case rel =>
              have := HTK.out; have := HTN.out; have := HCK.out
              exact ⟨m + 1, tk + 1, kids ++ [kc], pks ++ [Lib.strCells s], _, _, by omega, by go_num, by go_num, by rw [e1, List.length_append, List.length_append]; simp; omega, by omega, hal, B'⟩
            case measure => simp [intOf]; omega
        · have hd : decide ((m : Int) < (n : Int) - 1) = false := by simp; omega
          have e1 : inord ((kids ++ [kc]).map K.ks) pks = inord (kids.map K.ks) pks ++ cks := by
            rw [List.map_append]
            show inord (kids.map K.ks ++ [kc.ks]) pks = _
            rw [HK1.out]
            exact inord_last _ _ _ (by simp; omega)
          have B' : Base w0 w9 inn n (m + 1) pp gc gn (kids ++ [kc]) pks vt ve y12 u13 := by
            refine base_next B hlt ?_ (by omega) B.pst hkst hkcn hklf hkpt
            rw [e1]
            exact S8.p2.p5.p3.p6.p6.p6
          go_wp2
          go_roundw
          case rel =>
            have := HTK.out; have := HTN.out; have := HCK.out
            exact ⟨m + 1, tk, kids ++ [kc], pks, vt, ve, by omega, by go_num, rfl, by rw [e1, List.length_append]; omega, by omega, hal, B'⟩
          case measure => simp [intOf]; omega
    · obtain rfl : m = n := by omega
      clear hz
      go_wp2
      exact hexit _ _ _ _ _ _ _ _ _ _ _ _ _ _ _ _ _ _ _ _ _ _ _ _ _ _ _ _ _ _ _ _ _ _ _ _ _ _ _ _ _ _ _ _ _ _ _ _ _ _ _ _ _ _ _ _ _ _ _ _ _ _ _ _ _ _ _ _ _ _ _ _ _ _ _ _ _ _ _ _ _ _ _ _ _ _ _ _ _ _ _ _ _ _ _ _ _ _ _ _ _ _ _ _ _ _ _ _ _ _ _ _ _ _ _ _ _ _ _ _ _ _ _ _ _ _ _ _ _ _ _ _ _ _ _ _ _ wr kids pks vt ve B

end Go.Proofs.Ybulkcday
