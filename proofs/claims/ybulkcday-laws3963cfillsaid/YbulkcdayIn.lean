import Derived.Test.YbulkcdaySt
import Derived.Deep.CutRange
import Derived.Deep.DeepCutAuto
import Derived.Deep.RegionLaw
namespace Go.Proofs.Ybulkcday
open Go.RowKit

/-- The loops of a body, each ahead of those inside it. -/
def loopsOf : Code → List Code
  | .loop c => c :: loopsOf c
  | .seq a b => loopsOf a ++ loopsOf b
  | .block _ c => loopsOf c
  | .scope c => loopsOf c
  | .cond _ a b => loopsOf a ++ loopsOf b
  | _ => []
noncomputable def bodyOf (i : Nat) : Code := ((Yba.f4.body.map loopsOf).getD []).getD i .skip

set_option maxHeartbeats 6400000 in
set_option maxRecDepth 1000000 in
theorem inner_loop (w0 : World) (inn : Bool) (cn pc tn : Nat) (seq : List (List Value)) (gs0 : List Value) (rest : List Res) (hcn : cn ≤ 33) (htn : tn ≤ 4000) (hseq : seq.length = tn) (hgs : gs0.length ≤ 4000)
    (v0 v1 v3 v4 v5 v6 v7 v8 v9 v10 v11 v12 v13 v15 v19 v20 v21 v22 v23 v24 v25 v26 v27 v28 v29 v30 v31 v32 v33 v34 v35 v36 v37 v38 v39 v40 v41 v42 v43 v44 v45 v46 v47 v48 v49 v50 v51 v52 v53 v54 v55 v56 v57 v58 v59 v60 v61 v62 v63 v64 v65 v66 v67 v68 v69 v70 v71 v72 v73 v74 v75 v76 v77 v78 v79 v80 v81 v82 v83 v84 v85 v86 v87 v88 v89 v90 v91 v92 v93 v94 v95 v96 v97 v98 v99 v100 v101 v102 v103 v104 v105 v106 v107 v108 v109 v110 v111 v112 v113 v114 v115 v116 v117 v118 v119 v120 v121 v122 v123 v124 v125 v126 v127 v128 v129 v130 v131 v132 v133 v134 v135 v136 v137 v138 v139 v140 v141 v142 v143 v144 v145 v146 v147 v148 v149 v150 v151 v152 v153 v154 v155 v156 v157 v158 v159 v160 v161 v162 v163 v164 v165 v166 v167 v168 v169 v170 v171 v172 v173 v174 v175 v176 v177 v178 v179 v180 v181 v182 v183 v184 v185 v186 v187 v188 v189 v190 v191 v192 v193 v194 v195 v196 v197 v198 v199 v200 v201 v202 v203 v204 v205 v206 v207 v208 v209 v210 v211 v212 v213 v214 v215 v216 v217 v218 v219 v220 v221 v222 v223 v224 v225 v226 v227 v228 v229 v230 v231 v232 v233 v234 v235 v236 v237 v238 v239 v240 v241 v242 v243 v244 v245 v246 v247 v248 v249 v250 v251 v252 v253 v254 v255 v256 v257 v258 v259 v260 v261 v262 v263 v264 v265 v266 v267 v268 v269 v270 v271 v272 v273 v274 v275 v276 v277 v278 v279 v280 v281 v282 v283 v284 v285 v286 v287 v288 v289 v290 v291 v292 v293 v294 v295 v296 v297 v298 v299 v300 v301 v302 v303 v304 v305 v306 v307 v308 v309 v310 v311 v312 v313 v314 v315 v316 v317 v318 v319 v320 v321 v322 v323 v324 v325 v326 v327 v328 v329 v330 v331 v332 v333 v334 v335 v336 v337 v338 v339 v340 v341 v342 v343 v344 v345 v346 v347 v348 v349 v350 v351 v352 v353 v354 v355 v356 v357 v358 v359 v360 v361 v362 v363 v364 v365 v366 v367 v368 v369 v370 v371 v372 v373 v374 v375 v376 v377 v378 v379 v380 v381 v382 v383 v384 v385 v386 v387 v388 v389 v390 v391 v392 v393 v394 v395 v396 v397 v398 v399 v400 v401 v402 v403 v404 v405 v406 v407 v408 v409 v410 v411 v412 v413 v414 v415 v416 v417 v418 v419 v420 v421 v422 v423 v424 v425 v426 v427 v428 v429 v430 v431 v432 v433 v434 v435 v436 v437 : Value) (w : World) (I0 : Inner w0 w inn pc (.slice none 0 0) (.slice none 0 0) (.slice none 0 0) [] [] v12 v13 seq gs0 rest) (Q0 : Exit → Act → World → Prop)
    (hexit : ∀ (u12 u13 u19 u20 u65 u66 u67 u68 u69 u70 u71 u72 u73 u74 u75 u76 u77 u78 u79 u80 u81 u82 u83 u84 u85 u86 u87 u88 u89 u90 u91 u92 u93 u94 u95 u96 u97 u98 u99 u100 u101 u102 u103 u104 u105 u106 u107 u108 u109 u110 u111 u112 u113 u114 u115 u116 u117 : Value) (wr : World) (ct ce ck : Value) (cks : List (List Value)) (G : List Value) (tk : Nat), tk = tn + cn → cks.length = cn → Inner w0 wr inn pc ct ce ck cks G u12 u13 seq gs0 rest → (inn = true → G.length = cn) → Q0 (.exit 2) ⟨#[v0, v1, .bool inn, v3, v4, v5, v6, v7, v8, v9, v10, v11, u12, u13, .int .i64 (tk : Int), v15, .int .i64 (cn : Int), .pointer (some ⟨pc, 0, none⟩), .int .i64 (cn : Int), u19, u20, v21, v22, v23, v24, v25, v26, v27, v28, v29, v30, v31, v32, v33, v34, v35, v36, v37, v38, v39, v40, v41, v42, v43, v44, v45, v46, v47, v48, v49, v50, v51, v52, v53, v54, v55, v56, v57, v58, v59, v60, v61, v62, v63, v64, u65, u66, u67, u68, u69, u70, u71, u72, u73, u74, u75, u76, u77, u78, u79, u80, u81, u82, u83, u84, u85, u86, u87, u88, u89, u90, u91, u92, u93, u94, u95, u96, u97, u98, u99, u100, u101, u102, u103, u104, u105, u106, u107, u108, u109, u110, u111, u112, u113, u114, u115, u116, u117, v118, v119, v120, v121, v122, v123, v124, v125, v126, v127, v128, v129, v130, v131, v132, v133, v134, v135, v136, v137, v138, v139, v140, v141, v142, v143, v144, v145, v146, v147, v148, v149, v150, v151, v152, v153, v154, v155, v156, v157, v158, v159, v160, v161, v162, v163, v164, v165, v166, v167, v168, v169, v170, v171, v172, v173, v174, v175, v176, v177, v178, v179, v180, v181, v182, v183, v184, v185, v186, v187, v188, v189, v190, v191, v192, v193, v194, v195, v196, v197, v198, v199, v200, v201, v202, v203, v204, v205, v206, v207, v208, v209, v210, v211, v212, v213, v214, v215, v216, v217, v218, v219, v220, v221, v222, v223, v224, v225, v226, v227, v228, v229, v230, v231, v232, v233, v234, v235, v236, v237, v238, v239, v240, v241, v242, v243, v244, v245, v246, v247, v248, v249, v250, v251, v252, v253, v254, v255, v256, v257, v258, v259, v260, v261, v262, v263, v264, v265, v266, v267, v268, v269, v270, v271, v272, v273, v274, v275, v276, v277, v278, v279, v280, v281, v282, v283, v284, v285, v286, v287, v288, v289, v290, v291, v292, v293, v294, v295, v296, v297, v298, v299, v300, v301, v302, v303, v304, v305, v306, v307, v308, v309, v310, v311, v312, v313, v314, v315, v316, v317, v318, v319, v320, v321, v322, v323, v324, v325, v326, v327, v328, v329, v330, v331, v332, v333, v334, v335, v336, v337, v338, v339, v340, v341, v342, v343, v344, v345, v346, v347, v348, v349, v350, v351, v352, v353, v354, v355, v356, v357, v358, v359, v360, v361, v362, v363, v364, v365, v366, v367, v368, v369, v370, v371, v372, v373, v374, v375, v376, v377, v378, v379, v380, v381, v382, v383, v384, v385, v386, v387, v388, v389, v390, v391, v392, v393, v394, v395, v396, v397, v398, v399, v400, v401, v402, v403, v404, v405, v406, v407, v408, v409, v410, v411, v412, v413, v414, v415, v416, v417, v418, v419, v420, v421, v422, v423, v424, v425, v426, v427, v428, v429, v430, v431, v432, v433, v434, v435, v436, v437], []⟩ wr) :
    Code.wp Yba.prog (Code.loop (bodyOf 1)) Q0 ⟨#[v0, v1, .bool inn, v3, v4, v5, v6, v7, v8, v9, v10, v11, v12, v13, .int .i64 (tn : Int), v15, .int .i64 (cn : Int), .pointer (some ⟨pc, 0, none⟩), .int .i64 0, v19, v20, v21, v22, v23, v24, v25, v26, v27, v28, v29, v30, v31, v32, v33, v34, v35, v36, v37, v38, v39, v40, v41, v42, v43, v44, v45, v46, v47, v48, v49, v50, v51, v52, v53, v54, v55, v56, v57, v58, v59, v60, v61, v62, v63, v64, v65, v66, v67, v68, v69, v70, v71, v72, v73, v74, v75, v76, v77, v78, v79, v80, v81, v82, v83, v84, v85, v86, v87, v88, v89, v90, v91, v92, v93, v94, v95, v96, v97, v98, v99, v100, v101, v102, v103, v104, v105, v106, v107, v108, v109, v110, v111, v112, v113, v114, v115, v116, v117, v118, v119, v120, v121, v122, v123, v124, v125, v126, v127, v128, v129, v130, v131, v132, v133, v134, v135, v136, v137, v138, v139, v140, v141, v142, v143, v144, v145, v146, v147, v148, v149, v150, v151, v152, v153, v154, v155, v156, v157, v158, v159, v160, v161, v162, v163, v164, v165, v166, v167, v168, v169, v170, v171, v172, v173, v174, v175, v176, v177, v178, v179, v180, v181, v182, v183, v184, v185, v186, v187, v188, v189, v190, v191, v192, v193, v194, v195, v196, v197, v198, v199, v200, v201, v202, v203, v204, v205, v206, v207, v208, v209, v210, v211, v212, v213, v214, v215, v216, v217, v218, v219, v220, v221, v222, v223, v224, v225, v226, v227, v228, v229, v230, v231, v232, v233, v234, v235, v236, v237, v238, v239, v240, v241, v242, v243, v244, v245, v246, v247, v248, v249, v250, v251, v252, v253, v254, v255, v256, v257, v258, v259, v260, v261, v262, v263, v264, v265, v266, v267, v268, v269, v270, v271, v272, v273, v274, v275, v276, v277, v278, v279, v280, v281, v282, v283, v284, v285, v286, v287, v288, v289, v290, v291, v292, v293, v294, v295, v296, v297, v298, v299, v300, v301, v302, v303, v304, v305, v306, v307, v308, v309, v310, v311, v312, v313, v314, v315, v316, v317, v318, v319, v320, v321, v322, v323, v324, v325, v326, v327, v328, v329, v330, v331, v332, v333, v334, v335, v336, v337, v338, v339, v340, v341, v342, v343, v344, v345, v346, v347, v348, v349, v350, v351, v352, v353, v354, v355, v356, v357, v358, v359, v360, v361, v362, v363, v364, v365, v366, v367, v368, v369, v370, v371, v372, v373, v374, v375, v376, v377, v378, v379, v380, v381, v382, v383, v384, v385, v386, v387, v388, v389, v390, v391, v392, v393, v394, v395, v396, v397, v398, v399, v400, v401, v402, v403, v404, v405, v406, v407, v408, v409, v410, v411, v412, v413, v414, v415, v416, v417, v418, v419, v420, v421, v422, v423, v424, v425, v426, v427, v428, v429, v430, v431, v432, v433, v434, v435, v436, v437], []⟩ w := by
  obtain ⟨i24, hi24, hz24, hs24, hb24⟩ := info_parts Yba.info24
  obtain ⟨i3, hi3, hz3, hs3, hb3⟩ := info_parts Yba.info3
  obtain ⟨i5, hi5, hz5, hs5, hb5⟩ := info_parts Yba.info5
  obtain ⟨i9, hi9, hz9, hs9, hb9⟩ := info_parts Yba.info9
  conv => arg 2; arg 1; whnf
  conv => arg 4; zeta
  go_loopw [12, 13, 14, 18, 19, 20] (fun vO vG t k _ _ wr => ∃ (tk kn : Nat) (ct ce ck : Value) (cks : List (List Value)) (G : List Value), kn ≤ cn ∧ k = .int .i64 kn ∧ t = .int .i64 tk ∧ kn = cks.length ∧ tk = tn + kn ∧ Inner w0 wr inn pc ct ce ck cks G vO vG seq gs0 rest ∧ (inn = true → G.length = kn)) (fun _ _ _ k _ _ _ => cn - (intOf k).toNat)
  case atStart => exact ⟨tn, 0, _, _, _, [], [], by omega, rfl, rfl, rfl, rfl, I0, fun _ => rfl⟩
  case round =>
    clear I0
    obtain ⟨tk, kn, ct, ce, ck, cks, G, hkc, rfl, rfl, hkn, htk, I, hG⟩ := hrel
    have HK := Hid.mk' hkn
    have HT := Hid.mk' htk
    have htk4 : tk ≤ 5000 := by omega
    have hckl : cks.length ≤ 33 := by omega
    have hsl : seq.length ≤ 4000 := by omega
    clear hkn htk hseq
    by_cases hk : kn < cn
    · clear hexit
      go_upto_if 70 with fail
      go_cut [13, 19] from 65 to 117 (fun vG' _ wc => ∃ ck' G', Sep w0 wc (Res.w pc ct ce ck' cks.flatten (ivals (endsF 0 cks)) G' :: Res.row 9 u12 (oks (seq ++ cks)) :: Res.row 24 vG' (gs0 ++ G') :: rest) ∧ (inn = false → ck' = .slice none 0 0 ∧ G' = []) ∧ (∀ u ∈ G', ∃ a, u = Value.pointer (some a)) ∧ (inn = true → G'.length = kn + 1))
      case first =>
        cases inn with
        | false =>
          go_wp2
          go_meet
          case rel => exact ⟨ck, G, I.sep, fun _ => I.lf0 rfl, I.ptr, fun h => by cases h⟩
        | true =>
          have hG' := hG rfl
          have HG := Hid.mk' hG'
          have hGl : G.length ≤ 33 := by omega
          clear hG' hG
          have kn1 := (Keeps.refl (fun _ => False) wr).alloc (.cells #[.slice none 0 0, .slice none 0 0, .slice none 0 0, .int .u64 0] 30)
          have S3 := I.sep.quiet kn1
          go_upto_region 24 with fail
          generalize (wr.alloc (.cells #[.slice none 0 0, .slice none 0 0, .slice none 0 0, .int .u64 0] 30)) = w3 at *
          have ko := (Keeps.refl (fun _ => False) w3).alloc (.cells #[Value.pointer (some ⟨wr.heap.size, 0, none⟩)] 24)
          have S4 := S3.quiet ko
          have hR4 := S4.head
          obtain ⟨e0, e1, e2, ef⟩ := Rw.cells S3.head
          go_upto_region 25 with (at_builtin; refine wpList_app _ rfl (.tmp 77) (.tmp 79) 27 rfl 24 i24 (.pointer none) 1 8 Yba.underlying27 hi24 hz24 hs24 hb24 rfl (by omega) ck G.length G rfl hR4.kid 1 [.pointer (some ⟨wr.heap.size, 0, none⟩)] (Src.one_new w3 _ _ rfl) (by unfold maxLen; omega) (by omega) ?_; intro v5 w5 hA5 hn5; obtain ⟨ao5, cp5, rfl⟩ := own_slice hA5.own; obtain ⟨-, -, g2, gf⟩ := Rw.after hR4 hA5 hR4.pk; have gf2 := gf 2)
          have S5 := S4.st2 hA5
          generalize (w5.setCell ⟨pc, 2, none⟩ (.slice ao5 (G.length + 1) cp5)) = w6 at *
          have ko2 := (Keeps.refl (fun _ => False) w6).alloc (.cells #[Value.pointer (some ⟨wr.heap.size, 0, none⟩)] 24)
          have S6 := (S5.quiet ko2).p3
          have hg6 : (w6.alloc (.cells #[Value.pointer (some ⟨wr.heap.size, 0, none⟩)] 24)).ownsRow 0 24 1 u13 (gs0 ++ G).length (gs0 ++ G) := S6.head
          have hgl6 : (gs0 ++ G).length ≤ 5000 := by rw [List.length_append]; omega
          clear S5 S4 S3 e0 e1 e2 ef g2 gf gf2 hR4
          go_wp2_with (at_builtin; go_loud (refine wpList_app _ rfl (.tmp 83) (.tmp 85) 27 rfl 24 i24 (.pointer none) 1 8 Yba.underlying27 hi24 hz24 hs24 hb24 rfl (by omega) u13 (gs0 ++ G).length (gs0 ++ G) rfl hg6 1 [.pointer (some ⟨wr.heap.size, 0, none⟩)] (Src.one_new w6 _ _ rfl) (by unfold maxLen; omega) (by omega) ?_; intro v7 w7 hA7 hn7))
          have S7 := (S6.app hA7).q3
          rw [List.append_assoc] at S7
          go_meet
          case rel => exact ⟨_, _, S7, (fun h => by cases h), (fun u hu => by rcases List.mem_append.1 hu with h | h; exact I.ptr u h; exact ⟨_, by simpa using h⟩), fun _ => by rw [List.length_append, HG.out]; rfl⟩
      case rest =>
        obtain ⟨ck', G', S5, hlf, hptr, hG'⟩ := hcut
        have hpst := I.pst
        clear I hG
        have hfl : cks.flatten.length ≤ 3300 := by
          have := flat_le (ks := cks) (fun k hk => (hpst k hk).2); omega
        have hZl : (ivals (endsF 0 cks)).length = cks.length := by simp [ivals, endsF_length]
        generalize hX : cks.flatten = X at *
        generalize hZ : ivals (endsF 0 cks) = Z at *
        generalize hO : oks (seq ++ cks) = O at *
        have hZ33 : Z.length ≤ 33 := by omega
        have hOl : O.length ≤ 5000 := by rw [← hO, oks_length, List.length_append]; omega
        have HX := Hid.mk' hX
        have HZ := Hid.mk' hZ
        have HO := Hid.mk' hO
        clear hX hZ hO hZl
        go_wp2_with fail
        refine (ckey_any tk (by omega)).mono ?_
        rintro r w6 ⟨s, rfl, hs0, hs1, k6⟩
        have S6 := S5.quiet k6
        have hR6 := S6.head
        obtain ⟨e0, e1, e2, ef⟩ := Rw.cells hR6
        have ef0 := ef 0
        clear S5 k6
        go_upto_region 29 with (at_builtin; refine wpList_app_string _ rfl (.tmp 95) (.tmp 96) 25 9 rfl 5 i5 Yba.underlying25 Yba.underlying9 hi5 hz5 hs5 hb5 ct X.length X rfl hR6.txt s rfl (by unfold maxLen; omega) (by omega) ?_; intro v7 w7 hA7 hn7; obtain ⟨g0, -, -, gf⟩ := Rw.after hR6 hA7 hR6.pt; have gf0 := gf 0; obtain ⟨gt7, ct7, rfl, -, -, -, -, -⟩ := own_some hA7.own (by omega))
        have S7 := S6.st0 hA7
        generalize (w7.setCell ⟨pc, 0, none⟩ (.slice (some ⟨gt7, 0, none⟩) (X.length + s.size) ct7)) = w8 at *
        clear S6 hR6 e0 e1 e2 ef ef0 g0 gf gf0 hA7
        have ko := ((Keeps.refl (fun _ => False) w8).alloc (.cells #[Value.int .i64 ((X.length : Int) + (s.size : Int))] 3)).drew
        have S8 := S7.quiet ko
        have hR8 := S8.head
        obtain ⟨e0, e1, e2, ef⟩ := Rw.cells S7.head
        obtain ⟨a0, a1, a2, af⟩ := Rw.cells hR8
        have hso : Src ((w8.alloc (.cells #[Value.int .i64 ((X.length : Int) + (s.size : Int))] 3)).drew) 1 (.slice (some ⟨w8.heap.size, 0, none⟩) 1 1) 1 [.int .i64 ((X.length : Int) + (s.size : Int))] := Src.one_new w8.drew (.int .i64 ((X.length : Int) + (s.size : Int))) 3 rfl
        clear ef af e2 a2
        go_cut [] from 65 to 117 (fun wc => ∃ ge9, Sep w0 wc (Res.w pc (.slice (some ⟨gt7, 0, none⟩) (X.length + s.size) ct7) ge9 ck' (X ++ Lib.strCells s) (Z ++ [.int .i64 ((X.length : Int) + (s.size : Int))]) G' :: Res.row 9 u12 O :: Res.row 24 u13 (gs0 ++ G') :: rest))
        case first =>
          refine wp_region_noPanic ?_
          go_region_law ((refine step_app rfl (.tmp 104) (.tmp 110) 26 rfl 3 i3 (.int .i64 0) 1 8 Yba.underlying26 hi3 hz3 hs3 hb3 rfl (by omega) ce Z.length Z rfl hR8.ens (.slice (some ⟨w8.heap.size, 0, none⟩) 1 1) rfl 1 [.int .i64 ((X.length : Int) + (s.size : Int))] hso (by unfold maxLen; omega) (by omega) ?_; intro v9 w9 hA9 hn9; obtain ⟨ao9, cp9, rfl⟩ := own_slice hA9.own; obtain ⟨g0, g1, -, gf⟩ := Rw.after hR8 hA9 hR8.pe; have gf1 := gf 1))
          all_goals
            have S9 := S8.st1 hA9
            refine NoPanic.normal ?_
            go_wp2
            go_meet
            case rel => exact ⟨_, S9⟩
        case rest =>
          obtain ⟨ge9, S9⟩ := hcut
          clear S7 S8 hR8 e0 e1 a0 a1 hso ko
          have ko := (Keeps.refl (fun _ => False) wc).alloc (.cells #[Value.string s] 9)
          have S10 := (S9.quiet ko).p2
          have hO10 : (wc.alloc (.cells #[Value.string s] 9)).ownsRow 0 9 1 u12 O.length O := S10.head
          go_wp2_with (at_builtin; refine wpList_app _ rfl (.tmp 114) (.tmp 116) 22 rfl 9 i9 (.string ⟨#[]⟩) 1 16 Yba.underlying22 hi9 hz9 hs9 hb9 rfl (by omega) u12 O.length O rfl hO10 1 [.string s] (Src.one_new wc _ _ rfl) (by unfold maxLen; omega) (by omega) ?_; intro v11 w11 hA11 hn11)
          have S11 := (S10.app hA11).p2
          have E1 : X ++ Lib.strCells s = (cks ++ [Lib.strCells s]).flatten := by rw [← HX.out]; simp
          have E2 : Z ++ [.int .i64 ((X.length : Int) + (s.size : Int))] = ivals (endsF 0 (cks ++ [Lib.strCells s])) := by
            rw [← HZ.out, ← HX.out, endsF_append]
            simp only [endsF, Nat.zero_add, Lib.strCells_length, ivals, List.map_append, List.map_cons, List.map_nil, Int.natCast_add]
          have E3 : O ++ [.string s] = oks (seq ++ (cks ++ [Lib.strCells s])) := by
            rw [← HO.out, ← List.append_assoc, oks_append (seq ++ cks)]; simp [oks, unS_str]
          rw [E1, E2, E3] at S11
          go_roundw
          case rel =>
            refine ⟨tk + 1, kn + 1, _, _, _, cks ++ [Lib.strCells s], G', by omega, by go_num, by go_num, by rw [HK.out]; simp, by have := HT.out; omega, ⟨S11, ?_, hlf, hptr⟩, hG'⟩
            intro k hk
            rcases List.mem_append.1 hk with h | h
            · exact hpst k h
            · simp at h; subst h; exact ⟨isStr_str s, by rw [Lib.strCells_length]; exact ⟨hs0, hs1⟩⟩
          case measure => simp [intOf]; omega
    · obtain rfl : kn = cn := by omega
      go_wp2
      exact hexit _ _ _ _ _ _ _ _ _ _ _ _ _ _ _ _ _ _ _ _ _ _ _ _ _ _ _ _ _ _ _ _ _ _ _ _ _ _ _ _ _ _ _ _ _ _ _ _ _ _ _ _ _ _ _ _ _ wr ct ce ck cks G tk HT.out HK.out.symm I hG

end Go.Proofs.Ybulkcday
