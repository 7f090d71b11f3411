import Derived.Test.YbulkcdayIn
namespace Go.Proofs.Ybulkcday
open Go.RowKit

set_option maxHeartbeats 6400000 in
set_option maxRecDepth 1000000 in
theorem chk4_loop (w0 : World) (inn : Bool) (kc : K) (cn : Nat) (hcn : cn = kc.ks.length) (hcn1 : cn ≤ 64) (hlf : Lf inn kc) (hst : ∀ k ∈ kc.ks, IsStr k) (seq : List (List Value)) (gs0 : List Value) (R : List Res) (hR : Res.k kc ∈ R) (hseq : seq.length ≤ 10000) (hgs : gs0.length ≤ 10000)
    (v0 v1 v3 v4 v5 v6 v7 v8 v9 v10 v11 v12 v13 v14 v15 v16 v17 v18 v19 v20 v21 v22 v23 v24 v25 v26 v27 v28 v31 v32 v33 v34 v35 v36 v37 v38 v39 v40 v41 v42 v43 v44 v45 v46 v47 v48 v49 v50 v51 v52 v53 v54 v55 v56 v57 v58 v59 v60 v61 v62 v63 v64 v65 v66 v67 v68 v69 v70 v71 v72 v73 v74 v75 v76 v77 v78 v79 v80 v81 v82 v83 v84 v85 v86 v87 v88 v89 v90 v91 v92 v93 v94 v95 v96 v97 v98 v99 v100 v101 v102 v103 v104 v105 v106 v107 v108 v109 v110 v111 v112 v113 v114 v115 v116 v117 v118 v119 v120 v121 v122 v123 v124 v125 v126 v127 v128 v129 v130 v131 v132 v133 v134 v135 v136 v137 v138 v139 v140 v141 v142 v143 v144 v145 v146 v147 v148 v149 v150 v151 v152 v153 v154 v155 v156 v157 v158 v159 v160 v161 v162 v163 v164 v165 v166 v167 v168 v169 v170 v171 v172 v173 v174 v175 v176 v177 v178 v179 v180 v181 v182 v183 v184 v185 v186 v187 v188 v189 v190 v191 v192 v193 v194 v195 v196 v197 v198 v199 v200 v201 v202 v203 v204 v205 v206 v207 v208 v209 v210 v211 v212 v213 v214 v215 v216 v217 v218 v219 v220 v221 v222 v223 v224 v225 v226 v227 v228 v229 v230 v231 v232 v233 v234 v235 v236 v237 v238 v239 v240 v241 v242 v243 v244 v245 v246 v247 v248 v249 v250 v251 v252 v253 v254 v255 v256 v257 v258 v259 v260 v261 v262 v263 v264 v265 v266 v267 v268 v269 v270 v271 v272 v273 v274 v275 v276 v277 v278 v279 v280 v281 v282 v283 v284 v285 v286 v287 v288 v289 v290 v291 v292 v293 v294 v295 v296 v297 v298 v299 v300 v301 v302 v303 v304 v305 v306 v307 v308 v309 v310 v311 v312 v313 v314 v315 v316 v317 v318 v319 v320 v321 v322 v323 v324 v325 v326 v327 v328 v329 v330 v331 v332 v333 v334 v335 v336 v337 v338 v339 v340 v341 v342 v343 v344 v345 v346 v347 v348 v349 v350 v351 v352 v353 v354 v355 v356 v357 v358 v359 v360 v361 v362 v363 v364 v365 v366 v367 v368 v369 v370 v371 v372 v373 v374 v375 v376 v377 v378 v379 v380 v381 v382 v383 v384 v385 v386 v387 v388 v389 v390 v391 v392 v393 v394 v395 v396 v397 v398 v399 v400 v401 v402 v403 v404 v405 v406 v407 v408 v409 v410 v411 v412 v413 v414 v415 v416 v417 v418 v419 v420 v421 v422 v423 v424 v425 v426 v427 v428 v429 v430 v431 v432 v433 v434 v435 v436 v437 : Value) (w : World) (S0 : Sep w0 w (Res.row 9 v26 (oks seq) :: Res.row 24 v27 gs0 :: R)) (Q0 : Exit → Act → World → Prop)
    (hexit : ∀ (u26 u27 u378 u379 u380 u381 u382 u383 u384 u385 u386 u387 u388 u389 u390 u391 u392 u393 u394 u395 u396 u397 u398 u399 u400 u401 : Value) (wr : World), Sep w0 wr (Res.row 9 u26 (oks (seq ++ kc.ks)) :: Res.row 24 u27 (gs0 ++ kc.gs.take cn) :: R) → Q0 (.exit 6) ⟨#[v0, v1, .bool inn, v3, v4, v5, v6, v7, v8, v9, v10, v11, v12, v13, v14, v15, v16, v17, v18, v19, v20, v21, v22, v23, v24, v25, u26, u27, v28, .pointer (some ⟨kc.p, 0, none⟩), .int .i64 (cn : Int), v31, v32, v33, v34, v35, v36, v37, v38, v39, v40, v41, v42, v43, v44, v45, v46, v47, v48, v49, v50, v51, v52, v53, v54, v55, v56, v57, v58, v59, v60, v61, v62, v63, v64, v65, v66, v67, v68, v69, v70, v71, v72, v73, v74, v75, v76, v77, v78, v79, v80, v81, v82, v83, v84, v85, v86, v87, v88, v89, v90, v91, v92, v93, v94, v95, v96, v97, v98, v99, v100, v101, v102, v103, v104, v105, v106, v107, v108, v109, v110, v111, v112, v113, v114, v115, v116, v117, v118, v119, v120, v121, v122, v123, v124, v125, v126, v127, v128, v129, v130, v131, v132, v133, v134, v135, v136, v137, v138, v139, v140, v141, v142, v143, v144, v145, v146, v147, v148, v149, v150, v151, v152, v153, v154, v155, v156, v157, v158, v159, v160, v161, v162, v163, v164, v165, v166, v167, v168, v169, v170, v171, v172, v173, v174, v175, v176, v177, v178, v179, v180, v181, v182, v183, v184, v185, v186, v187, v188, v189, v190, v191, v192, v193, v194, v195, v196, v197, v198, v199, v200, v201, v202, v203, v204, v205, v206, v207, v208, v209, v210, v211, v212, v213, v214, v215, v216, v217, v218, v219, v220, v221, v222, v223, v224, v225, v226, v227, v228, v229, v230, v231, v232, v233, v234, v235, v236, v237, v238, v239, v240, v241, v242, v243, v244, v245, v246, v247, v248, v249, v250, v251, v252, v253, v254, v255, v256, v257, v258, v259, v260, v261, v262, v263, v264, v265, v266, v267, v268, v269, v270, v271, v272, v273, v274, v275, v276, v277, v278, v279, v280, v281, v282, v283, v284, v285, v286, v287, v288, v289, v290, v291, v292, v293, v294, v295, v296, v297, v298, v299, v300, v301, v302, v303, v304, v305, v306, v307, v308, v309, v310, v311, v312, v313, v314, v315, v316, v317, v318, v319, v320, v321, v322, v323, v324, v325, v326, v327, v328, v329, v330, v331, v332, v333, v334, v335, v336, v337, v338, v339, v340, v341, v342, v343, v344, v345, v346, v347, v348, v349, v350, v351, v352, v353, v354, v355, v356, v357, v358, v359, v360, v361, v362, v363, v364, v365, v366, v367, v368, v369, v370, v371, v372, v373, v374, v375, v376, v377, u378, u379, u380, u381, u382, u383, u384, u385, u386, u387, u388, u389, u390, u391, u392, u393, u394, u395, u396, u397, u398, u399, u400, u401, v402, v403, v404, v405, v406, v407, v408, v409, v410, v411, v412, v413, v414, v415, v416, v417, v418, v419, v420, v421, v422, v423, v424, v425, v426, v427, v428, v429, v430, v431, v432, v433, v434, v435, v436, v437], []⟩ wr) :
    Code.wp Yba.prog (Code.loop (bodyOf 3)) Q0 ⟨#[v0, v1, .bool inn, v3, v4, v5, v6, v7, v8, v9, v10, v11, v12, v13, v14, v15, v16, v17, v18, v19, v20, v21, v22, v23, v24, v25, v26, v27, v28, .pointer (some ⟨kc.p, 0, none⟩), .int .i64 0, v31, v32, v33, v34, v35, v36, v37, v38, v39, v40, v41, v42, v43, v44, v45, v46, v47, v48, v49, v50, v51, v52, v53, v54, v55, v56, v57, v58, v59, v60, v61, v62, v63, v64, v65, v66, v67, v68, v69, v70, v71, v72, v73, v74, v75, v76, v77, v78, v79, v80, v81, v82, v83, v84, v85, v86, v87, v88, v89, v90, v91, v92, v93, v94, v95, v96, v97, v98, v99, v100, v101, v102, v103, v104, v105, v106, v107, v108, v109, v110, v111, v112, v113, v114, v115, v116, v117, v118, v119, v120, v121, v122, v123, v124, v125, v126, v127, v128, v129, v130, v131, v132, v133, v134, v135, v136, v137, v138, v139, v140, v141, v142, v143, v144, v145, v146, v147, v148, v149, v150, v151, v152, v153, v154, v155, v156, v157, v158, v159, v160, v161, v162, v163, v164, v165, v166, v167, v168, v169, v170, v171, v172, v173, v174, v175, v176, v177, v178, v179, v180, v181, v182, v183, v184, v185, v186, v187, v188, v189, v190, v191, v192, v193, v194, v195, v196, v197, v198, v199, v200, v201, v202, v203, v204, v205, v206, v207, v208, v209, v210, v211, v212, v213, v214, v215, v216, v217, v218, v219, v220, v221, v222, v223, v224, v225, v226, v227, v228, v229, v230, v231, v232, v233, v234, v235, v236, v237, v238, v239, v240, v241, v242, v243, v244, v245, v246, v247, v248, v249, v250, v251, v252, v253, v254, v255, v256, v257, v258, v259, v260, v261, v262, v263, v264, v265, v266, v267, v268, v269, v270, v271, v272, v273, v274, v275, v276, v277, v278, v279, v280, v281, v282, v283, v284, v285, v286, v287, v288, v289, v290, v291, v292, v293, v294, v295, v296, v297, v298, v299, v300, v301, v302, v303, v304, v305, v306, v307, v308, v309, v310, v311, v312, v313, v314, v315, v316, v317, v318, v319, v320, v321, v322, v323, v324, v325, v326, v327, v328, v329, v330, v331, v332, v333, v334, v335, v336, v337, v338, v339, v340, v341, v342, v343, v344, v345, v346, v347, v348, v349, v350, v351, v352, v353, v354, v355, v356, v357, v358, v359, v360, v361, v362, v363, v364, v365, v366, v367, v368, v369, v370, v371, v372, v373, v374, v375, v376, v377, v378, v379, v380, v381, v382, v383, v384, v385, v386, v387, v388, v389, v390, v391, v392, v393, v394, v395, v396, v397, v398, v399, v400, v401, v402, v403, v404, v405, v406, v407, v408, v409, v410, v411, v412, v413, v414, v415, v416, v417, v418, v419, v420, v421, v422, v423, v424, v425, v426, v427, v428, v429, v430, v431, v432, v433, v434, v435, v436, v437], []⟩ w := by
  obtain ⟨i24, hi24, hz24, hs24, hb24⟩ := info_parts Yba.info24
  obtain ⟨i9, hi9, hz9, hs9, hb9⟩ := info_parts Yba.info9
  conv => arg 2; arg 1; whnf
  conv => arg 4; zeta
  go_loopw [26, 27, 30] (fun vK vG k wr => ∃ kn : Nat, kn ≤ cn ∧ k = .int .i64 kn ∧ Sep w0 wr (Res.row 9 vK (oks (seq ++ kc.ks.take kn)) :: Res.row 24 vG (gs0 ++ kc.gs.take kn) :: R)) (fun _ _ k _ => cn - (intOf k).toNat)
  case atStart => exact ⟨0, by omega, rfl, by simpa using S0⟩
  case round =>
    clear S0
    obtain ⟨kn, hkc, rfl, S⟩ := hrel
    have HC := Hid.mk' hcn
    have hok : kc.ok wr := S.all (Res.k kc) (by simp [hR])
    have hcount := count_q hok kc.p rfl
    rw [← hcn] at hcount
    clear hcn
    by_cases hk : kn < cn
    · clear hexit
      go_wp2_with fail
      refine hcount.mono ?_
      rintro r w1 ⟨rfl, rfl⟩
      clear hcount
      go_upto_if 384 with fail
      go_cut [27] from 378 to 401 (fun vG' wc => Sep w0 wc (Res.row 9 u26 (oks (seq ++ kc.ks.take kn)) :: Res.row 24 vG' (gs0 ++ kc.gs.take (kn + 1)) :: R))
      case first =>
        cases inn with
        | false =>
          go_wp2
          go_meet
          case rel => rw [(hlf.1 rfl).2] at S ⊢; simpa using S
        | true =>
          have hgl : kc.gs.length = kc.ks.length + 1 := hlf.2 rfl
          have hcn' := HC.out
          obtain ⟨gk, ck, hvk, hnk, hck, hobk, hlk, hcellk⟩ := own_some hok.kid (by omega)
          obtain ⟨-, -, c2, f2⟩ := K.cells hok
          rw [hvk] at c2
          obtain ⟨ag, hag⟩ := ptr_at hok.ptr kn (by omega)
          have d0 : wr.cell? ⟨gk, kn, none⟩ = some (.pointer ag) := (hcellk kn (by omega)).trans hag
          have HAg := Hid.mk' hag
          have b1 : (kn : Int) < (kc.gs.length : Int) := by omega
          have b2 : (0 : Int) ≤ (kn : Int) := by omega
          have ko := (Keeps.refl (fun _ => False) wr).alloc (.cells #[Value.pointer ag] 24)
          have S1 := (S.quiet ko).p2
          have hG1 : (wr.alloc (.cells #[Value.pointer ag] 24)).ownsRow 0 24 1 u27 (gs0 ++ kc.gs.take kn).length (gs0 ++ kc.gs.take kn) := S1.head
          have hgl1 : (gs0 ++ kc.gs.take kn).length ≤ 20000 := by rw [List.length_append, List.length_take]; omega
          have hnext : gs0 ++ kc.gs.take (kn + 1) = (gs0 ++ kc.gs.take kn) ++ [.pointer ag] := by
            have hlt : kn < kc.gs.length := by omega
            have e1 : kc.gs[kn] = .pointer ag := by rw [List.getElem?_eq_getElem hlt] at hag; simpa using hag
            rw [List.take_succ_eq_append_getElem hlt, e1, List.append_assoc]
          have HN := Hid.mk' hnext
          clear hcellk hag hnext hcn' hgl
          generalize hgg : gs0 ++ kc.gs.take kn = gg at *
          clear hgg
          go_wp2_with (at_builtin; refine wpList_app _ rfl (.tmp 385) (.tmp 393) 27 rfl 24 i24 (.pointer none) 1 8 Yba.underlying27 hi24 hz24 hs24 hb24 rfl (by omega) u27 gg.length gg rfl hG1 1 [.pointer ag] (Src.one_new wr _ _ rfl) (by unfold maxLen; omega) (by omega) ?_; intro x7 w7 hA7 hn7)
          have S2 := (S1.app hA7).p2
          go_meet
          case rel => rw [HN.out]; exact S2
      case rest =>
        clear S hok
        have S := hcut
        clear hcut
        have hok : kc.ok wc := S.all (Res.k kc) (by simp [hR])
        have hlt : kn < kc.ks.length := by rw [← HC.out]; exact hk
        have hsk := hst kc.ks[kn] (by simp)
        have hnext : oks (seq ++ kc.ks.take (kn + 1)) = oks (seq ++ kc.ks.take kn) ++ [.string (unS kc.ks[kn])] := by
          rw [List.take_succ_eq_append_getElem hlt, ← List.append_assoc, oks_append (seq ++ kc.ks.take kn)]; rfl
        have HN := Hid.mk' hnext
        clear hnext
        have hol : (oks (seq ++ kc.ks.take kn)).length ≤ 20000 := by rw [oks_length, List.length_append, List.length_take]; omega
        generalize oks (seq ++ kc.ks.take kn) = O at *
        go_wp2_with fail
        refine (key_q hok kc.p rfl kn hlt).mono ?_
        rintro r w4' ⟨o2, cc2, nq2, rfl, rfl, hs2, hk2, hk3⟩
        have S1 := S.quiet ((Keeps.refl (fun _ => False) wc).drewN nq2)
        have hok1 : kc.ok (wc.drewN nq2) := S1.all (Res.k kc) (by simp [hR])
        have hcv2 := conv_src (hs2 _ hok1) hk2 hsk
        generalize hkX : kc.ks[kn] = kX at *
        clear hkX
        generalize wc.drewN nq2 = w5 at *
        clear S hs2 hok
        have ko := (Keeps.refl (fun _ => False) w5).alloc (.cells #[Value.string (unS kX)] 9)
        have S2 := S1.quiet ko
        have hO : (w5.alloc (.cells #[Value.string (unS kX)] 9)).ownsRow 0 9 1 u26 O.length O := S2.head
        go_wp2_with (at_builtin; refine wpList_app _ rfl (.tmp 395) (.tmp 400) 22 rfl 9 i9 (.string ⟨#[]⟩) 1 16 Yba.underlying22 hi9 hz9 hs9 hb9 rfl (by omega) u26 O.length O rfl hO 1 [.string (unS kX)] (Src.one_new w5 _ _ rfl) (by unfold maxLen; omega) (by omega) ?_; intro x7 w7 hA7 hn7)
        have S3 := S2.app hA7
        rw [← HN.out] at S3
        go_roundw
        case rel => exact ⟨kn + 1, by omega, by go_num, S3⟩
        case measure => simp [intOf]; omega
    · obtain rfl : kn = cn := by omega
      go_wp2_with fail
      refine hcount.mono ?_
      rintro r w1 ⟨rfl, rfl⟩
      clear hcount
      have S' : Sep w0 wr (Res.row 9 u26 (oks (seq ++ kc.ks)) :: Res.row 24 u27 (gs0 ++ kc.gs.take kn) :: R) := by
        have := HC.out
        rw [List.take_of_length_le (show kc.ks.length ≤ kn by omega)] at S; exact S
      go_wp2
      exact S'

end Go.Proofs.Ybulkcday
