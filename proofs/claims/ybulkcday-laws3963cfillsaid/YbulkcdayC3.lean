import Derived.Test.YbulkcdayC4
import Derived.Test.YbulkcdayNx
namespace Go.Proofs.Ybulkcday
open Go.RowKit

set_option maxHeartbeats 6400000 in
set_option maxRecDepth 1000000 in
theorem chk3_loop (w0 : World) (inn : Bool) (P : K) (kids : List K) (nk gk ck gx cx : Nat) (hvk : P.vk = .slice (some ⟨gk, 0, none⟩) nk ck) (hnk : nk = kids.length) (T : Tree inn P kids) (R : List Res) (hP : Res.k P ∈ R) (hK : ∀ c ∈ kids, Res.k c ∈ R) (hX : Res.row 3 (.slice (some ⟨gx, 0, none⟩) nk cx) (ivals (counts kids)) ∈ R)
    (v0 v1 v3 v4 v5 v6 v7 v8 v10 v11 v12 v13 v14 v15 v16 v17 v18 v19 v20 v21 v22 v24 v25 v28 v29 v30 v31 v32 v33 v34 v35 v36 v37 v38 v39 v40 v41 v42 v43 v44 v45 v46 v47 v48 v49 v50 v51 v52 v53 v54 v55 v56 v57 v58 v59 v60 v61 v62 v63 v64 v65 v66 v67 v68 v69 v70 v71 v72 v73 v74 v75 v76 v77 v78 v79 v80 v81 v82 v83 v84 v85 v86 v87 v88 v89 v90 v91 v92 v93 v94 v95 v96 v97 v98 v99 v100 v101 v102 v103 v104 v105 v106 v107 v108 v109 v110 v111 v112 v113 v114 v115 v116 v117 v118 v119 v120 v121 v122 v123 v124 v125 v126 v127 v128 v129 v130 v131 v132 v133 v134 v135 v136 v137 v138 v139 v140 v141 v142 v143 v144 v145 v146 v147 v148 v149 v150 v151 v152 v153 v154 v155 v156 v157 v158 v159 v160 v161 v162 v163 v164 v165 v166 v167 v168 v169 v170 v171 v172 v173 v174 v175 v176 v177 v178 v179 v180 v181 v182 v183 v184 v185 v186 v187 v188 v189 v190 v191 v192 v193 v194 v195 v196 v197 v198 v199 v200 v201 v202 v203 v204 v205 v206 v207 v208 v209 v210 v211 v212 v213 v214 v215 v216 v217 v218 v219 v220 v221 v222 v223 v224 v225 v226 v227 v228 v229 v230 v231 v232 v233 v234 v235 v236 v237 v238 v239 v240 v241 v242 v243 v244 v245 v246 v247 v248 v249 v250 v251 v252 v253 v254 v255 v256 v257 v258 v259 v260 v261 v262 v263 v264 v265 v266 v267 v268 v269 v270 v271 v272 v273 v274 v275 v276 v277 v278 v279 v280 v281 v282 v283 v284 v285 v286 v287 v288 v289 v290 v291 v292 v293 v294 v295 v296 v297 v298 v299 v300 v301 v302 v303 v304 v305 v306 v307 v308 v309 v310 v311 v312 v313 v314 v315 v316 v317 v318 v319 v320 v321 v322 v323 v324 v325 v326 v327 v328 v332 v333 v334 v335 v336 v337 v338 v339 v340 v341 v342 v343 v344 v345 v346 v347 v348 v349 v350 v351 v352 v353 v354 v355 v356 v357 v358 v359 v360 v361 v362 v363 v364 v365 v366 v367 v368 v369 v370 v371 v372 v373 v374 v375 v376 v377 v378 v379 v380 v381 v382 v383 v384 v385 v386 v387 v388 v389 v390 v391 v392 v393 v394 v395 v396 v397 v398 v399 v400 v401 v402 v403 v404 v405 v406 v407 v408 v409 v410 v411 v412 v413 v414 v415 v416 v417 v418 v419 v420 v421 v422 v423 v424 v425 v426 v427 v428 v429 v430 v431 v432 v433 v434 v435 v436 v437 : Value) (w : World) (S0 : Sep w0 w (Res.row 9 (.slice none 0 0) [] :: Res.row 24 (.slice none 0 0) [] :: R)) (Q0 : Exit → Act → World → Prop)
    (hexit : ∀ (u6 u26 u27 u28 u29 u30 u332 u333 u334 u335 u336 u337 u338 u339 u340 u341 u342 u343 u344 u345 u346 u347 u348 u349 u350 u351 u352 u353 u354 u355 u356 u357 u358 u359 u360 u361 u362 u363 u364 u365 u366 u367 u368 u369 u370 u371 u372 u373 u374 u375 u376 u377 u378 u379 u380 u381 u382 u383 u384 u385 u386 u387 u388 u389 u390 u391 u392 u393 u394 u395 u396 u397 u398 u399 u400 u401 u402 u403 u404 u405 u406 u407 u408 u409 u410 u411 u412 u413 u414 u415 u416 u417 u418 u419 u420 u421 u422 u423 u424 u425 u426 u427 u428 u429 : Value) (wr : World), Sep w0 wr (Res.row 9 u26 (oks (allKeys P kids)) :: Res.row 24 u27 (allKids kids) :: R) → Q0 (.exit 4) ⟨#[v0, v1, .bool inn, v3, v4, v5, u6, v7, v8, .pointer (some ⟨P.p, 0, none⟩), v10, v11, v12, v13, v14, v15, v16, v17, v18, v19, v20, v21, v22, .slice (some ⟨gx, 0, none⟩) nk cx, v24, v25, u26, u27, u28, u29, u30, v31, v32, v33, v34, v35, v36, v37, v38, v39, v40, v41, v42, v43, v44, v45, v46, v47, v48, v49, v50, v51, v52, v53, v54, v55, v56, v57, v58, v59, v60, v61, v62, v63, v64, v65, v66, v67, v68, v69, v70, v71, v72, v73, v74, v75, v76, v77, v78, v79, v80, v81, v82, v83, v84, v85, v86, v87, v88, v89, v90, v91, v92, v93, v94, v95, v96, v97, v98, v99, v100, v101, v102, v103, v104, v105, v106, v107, v108, v109, v110, v111, v112, v113, v114, v115, v116, v117, v118, v119, v120, v121, v122, v123, v124, v125, v126, v127, v128, v129, v130, v131, v132, v133, v134, v135, v136, v137, v138, v139, v140, v141, v142, v143, v144, v145, v146, v147, v148, v149, v150, v151, v152, v153, v154, v155, v156, v157, v158, v159, v160, v161, v162, v163, v164, v165, v166, v167, v168, v169, v170, v171, v172, v173, v174, v175, v176, v177, v178, v179, v180, v181, v182, v183, v184, v185, v186, v187, v188, v189, v190, v191, v192, v193, v194, v195, v196, v197, v198, v199, v200, v201, v202, v203, v204, v205, v206, v207, v208, v209, v210, v211, v212, v213, v214, v215, v216, v217, v218, v219, v220, v221, v222, v223, v224, v225, v226, v227, v228, v229, v230, v231, v232, v233, v234, v235, v236, v237, v238, v239, v240, v241, v242, v243, v244, v245, v246, v247, v248, v249, v250, v251, v252, v253, v254, v255, v256, v257, v258, v259, v260, v261, v262, v263, v264, v265, v266, v267, v268, v269, v270, v271, v272, v273, v274, v275, v276, v277, v278, v279, v280, v281, v282, v283, v284, v285, v286, v287, v288, v289, v290, v291, v292, v293, v294, v295, v296, v297, v298, v299, v300, v301, v302, v303, v304, v305, v306, v307, v308, v309, v310, v311, v312, v313, v314, v315, v316, v317, v318, v319, v320, v321, v322, v323, v324, v325, v326, v327, v328, .slice (some ⟨gk, 0, none⟩) nk ck, .int .i64 (nk : Int), .int .i64 (nk : Int), u332, u333, u334, u335, u336, u337, u338, u339, u340, u341, u342, u343, u344, u345, u346, u347, u348, u349, u350, u351, u352, u353, u354, u355, u356, u357, u358, u359, u360, u361, u362, u363, u364, u365, u366, u367, u368, u369, u370, u371, u372, u373, u374, u375, u376, u377, u378, u379, u380, u381, u382, u383, u384, u385, u386, u387, u388, u389, u390, u391, u392, u393, u394, u395, u396, u397, u398, u399, u400, u401, u402, u403, u404, u405, u406, u407, u408, u409, u410, u411, u412, u413, u414, u415, u416, u417, u418, u419, u420, u421, u422, u423, u424, u425, u426, u427, u428, u429, v430, v431, v432, v433, v434, v435, v436, v437], []⟩ wr) :
    Code.wp Yba.prog (Code.loop (bodyOf 2)) Q0 ⟨#[v0, v1, .bool inn, v3, v4, v5, v6, v7, v8, .pointer (some ⟨P.p, 0, none⟩), v10, v11, v12, v13, v14, v15, v16, v17, v18, v19, v20, v21, v22, .slice (some ⟨gx, 0, none⟩) nk cx, v24, v25, .slice none 0 0, .slice none 0 0, v28, v29, v30, v31, v32, v33, v34, v35, v36, v37, v38, v39, v40, v41, v42, v43, v44, v45, v46, v47, v48, v49, v50, v51, v52, v53, v54, v55, v56, v57, v58, v59, v60, v61, v62, v63, v64, v65, v66, v67, v68, v69, v70, v71, v72, v73, v74, v75, v76, v77, v78, v79, v80, v81, v82, v83, v84, v85, v86, v87, v88, v89, v90, v91, v92, v93, v94, v95, v96, v97, v98, v99, v100, v101, v102, v103, v104, v105, v106, v107, v108, v109, v110, v111, v112, v113, v114, v115, v116, v117, v118, v119, v120, v121, v122, v123, v124, v125, v126, v127, v128, v129, v130, v131, v132, v133, v134, v135, v136, v137, v138, v139, v140, v141, v142, v143, v144, v145, v146, v147, v148, v149, v150, v151, v152, v153, v154, v155, v156, v157, v158, v159, v160, v161, v162, v163, v164, v165, v166, v167, v168, v169, v170, v171, v172, v173, v174, v175, v176, v177, v178, v179, v180, v181, v182, v183, v184, v185, v186, v187, v188, v189, v190, v191, v192, v193, v194, v195, v196, v197, v198, v199, v200, v201, v202, v203, v204, v205, v206, v207, v208, v209, v210, v211, v212, v213, v214, v215, v216, v217, v218, v219, v220, v221, v222, v223, v224, v225, v226, v227, v228, v229, v230, v231, v232, v233, v234, v235, v236, v237, v238, v239, v240, v241, v242, v243, v244, v245, v246, v247, v248, v249, v250, v251, v252, v253, v254, v255, v256, v257, v258, v259, v260, v261, v262, v263, v264, v265, v266, v267, v268, v269, v270, v271, v272, v273, v274, v275, v276, v277, v278, v279, v280, v281, v282, v283, v284, v285, v286, v287, v288, v289, v290, v291, v292, v293, v294, v295, v296, v297, v298, v299, v300, v301, v302, v303, v304, v305, v306, v307, v308, v309, v310, v311, v312, v313, v314, v315, v316, v317, v318, v319, v320, v321, v322, v323, v324, v325, v326, v327, v328, .slice (some ⟨gk, 0, none⟩) nk ck, .int .i64 (nk : Int), .int .i64 0, v332, v333, v334, v335, v336, v337, v338, v339, v340, v341, v342, v343, v344, v345, v346, v347, v348, v349, v350, v351, v352, v353, v354, v355, v356, v357, v358, v359, v360, v361, v362, v363, v364, v365, v366, v367, v368, v369, v370, v371, v372, v373, v374, v375, v376, v377, v378, v379, v380, v381, v382, v383, v384, v385, v386, v387, v388, v389, v390, v391, v392, v393, v394, v395, v396, v397, v398, v399, v400, v401, v402, v403, v404, v405, v406, v407, v408, v409, v410, v411, v412, v413, v414, v415, v416, v417, v418, v419, v420, v421, v422, v423, v424, v425, v426, v427, v428, v429, v430, v431, v432, v433, v434, v435, v436, v437], []⟩ w := by
  obtain ⟨i24, hi24, hz24, hs24, hb24⟩ := info_parts Yba.info24
  obtain ⟨i9, hi9, hz9, hs9, hb9⟩ := info_parts Yba.info9
  conv => arg 2; arg 1; whnf
  conv => arg 4; zeta
  go_loopw [26, 27, 28, 29, 30, 331] (fun vK vG _ _ _ j wr => ∃ m : Nat, m ≤ nk ∧ j = .int .i64 m ∧ (inord ((kids.take m).map K.ks) (P.ks.take m)).length ≤ 70 * m ∧ (allKids (kids.take m)).length ≤ 70 * m ∧ Sep w0 wr (Res.row 9 vK (oks (inord ((kids.take m).map K.ks) (P.ks.take m))) :: Res.row 24 vG (allKids (kids.take m)) :: R)) (fun _ _ _ _ _ j _ => nk - (intOf j).toNat)
  case atStart => exact ⟨0, by omega, rfl, by simp [inord], by simp [allKids], by simpa [inord, oks, allKids] using S0⟩
  case round =>
    clear S0
    obtain ⟨m, hm, rfl, hsb, hgb, S⟩ := hrel
    have HN := Hid.mk' hnk
    have hPok : P.ok wr := S.all (Res.k P) (by simp [hP])
    have hPl := T.len
    have hPgl : P.gs.length = nk := by rw [T.gs, List.length_map, hnk]
    by_cases hlt : m < nk
    · clear hexit
      have hltk : m < kids.length := by omega
      have hcm : kids[m] ∈ kids := by simp
      have hck := T.cnt _ hcm
      have hcst := T.kst _ hcm
      have hclf := T.lf _ hcm
      have hcR := hK _ hcm
      have d0 : wr.cell? ⟨gk, m, none⟩ = some (.pointer (some ⟨kids[m].p, 0, none⟩)) := by
        have ho := hPok.kid
        rw [hvk] at ho
        have hoc := own_some ho (by omega)
        obtain ⟨g', c', he, -, -, -, -, hcell⟩ := hoc
        injection he with h1 h2 h3
        injection h1 with h1
        injection h1 with h1
        subst h1
        rw [hcell m (by omega), T.gs]; simp [hltk, K.ptr]
      have d1 : wr.cell? ⟨gx, m, none⟩ = some (.int .i64 (kids[m].ks.length : Int)) := by
        have ho : wr.ownsRow 0 3 1 (.slice (some ⟨gx, 0, none⟩) nk cx) (ivals (counts kids)).length (ivals (counts kids)) := S.all (Res.row 3 (.slice (some ⟨gx, 0, none⟩) nk cx) (ivals (counts kids))) (by simp [hX])
        have hil : (ivals (counts kids)).length = nk := by simp [ivals, counts, hnk]
        rw [hil] at ho
        rw [ho.cellAt m (by omega)]; simp [ivals, counts, hltk]
      have hcok : kids[m].ok wr := S.all (Res.k kids[m]) (by simp [hcR])
      have htake : kids.take (m + 1) = kids.take m ++ [kids[m]] := List.take_succ_eq_append_getElem hltk
      have HTk := Hid.mk' htake
      clear htake
      generalize hc : kids[m] = c at *
      clear hc
      generalize hcnl : c.ks.length = cn at *
      have HCN := Hid.mk' hcnl
      clear hcnl
      have hcnt : ∀ nq, Calls Yba.prog 15 #[.pointer (some ⟨c.p, 0, none⟩)] (wr.drewN nq) fun r w' => r = .returned (.int .i64 cn) ∧ w' = wr.drewN nq := fun nq => by
        have := count_k (K.keepF hcok ((Keeps.refl _ wr).drewN nq)); rw [HCN.out] at this; exact this
      have b1 : (m : Int) < (nk : Int) := by omega
      have b2 : (0 : Int) ≤ (m : Int) := by omega
      clear hnk
      go_wp2
      go_quiet ((go_at_call 15; exact Calls.quiet_of_same (hcnt _)))
      have S1 := S.quiet ((Keeps.refl (fun _ => False) wr).drewN nq)
      clear S d0 d1 hcok hcnt hPok
      generalize wr.drewN nq = w1 at *
      go_upto_if 343 with fail
      go_cut [] from 332 to 429 (fun wc => Sep w0 wc (Res.row 9 u26 (oks (inord ((kids.take m).map K.ks) (P.ks.take m))) :: Res.row 24 u27 (allKids (kids.take m)) :: R))
      case first =>
        have hcok : c.ok w1 := S1.all (Res.k c) (by simp [hcR])
        have hcnt : ∀ nq, Calls Yba.prog 15 #[.pointer (some ⟨c.p, 0, none⟩)] (w1.drewN nq) fun r w' => r = .returned (.int .i64 cn) ∧ w' = w1.drewN nq := fun nq => by
          have := count_k (K.keepF hcok ((Keeps.refl _ w1).drewN nq)); rw [HCN.out] at this; exact this
        obtain ⟨-, -, c2, -⟩ := K.cells hcok
        cases inn with
        | false =>
          rw [(hclf.1 rfl).1] at c2
          clear hcnt
          go_wp2
          go_meet
          case rel => exact S1
        | true =>
          obtain ⟨ak, cpk, hvk2⟩ := own_slice hcok.kid
          have hgl : c.gs.length = cn + 1 := by rw [hclf.2 rfl, HCN.out]
          rw [hvk2, hgl] at c2
          clear hvk2 hgl hclf
          go_upto_region 74 with fail
          go_quiet ((go_at_call 15; exact Calls.quiet_of_same (hcnt _)))
          have S2 := S1.quiet ((Keeps.refl (fun _ => False) w1).drewN nq)
          go_wp2
          go_meet
          case rel => exact S2
      case rest =>
        clear S1
        have S1 := hcut
        clear hcut
        have hcok : c.ok wc := S1.all (Res.k c) (by simp [hcR])
        have hcnt : ∀ nq, Calls Yba.prog 15 #[.pointer (some ⟨c.p, 0, none⟩)] (wc.drewN nq) fun r w' => r = .returned (.int .i64 cn) ∧ w' = wc.drewN nq := fun nq => by
          have := count_k (K.keepF hcok ((Keeps.refl _ wc).drewN nq)); rw [HCN.out] at this; exact this
        obtain ⟨c1, c0, -, -⟩ := K.cells hcok
        have d2 : wc.cell? ⟨c.ge, cn - 1, none⟩ = some (.int .i64 (c.ks.flatten.length : Int)) := by
          have hkl := HCN.out
          have := hcok.nd.ens.cellAt (cn - 1) (by omega)
          rw [this, endsV_get c.ks (cn - 1) (by omega), off_all c.ks (by omega)]
        rw [HCN.out] at c1
        have hTb := hcok.tlen
        generalize c.ks.flatten.length = TT at *
        have b3 : decide ((0 : Int) < (cn : Int)) = true := by simp; omega
        have b3n : decide (0 < cn) = true := by simp; omega
        have b4 : (0 : Int) ≤ (cn : Int) - 1 := by omega
        have b5 : (cn : Int) - 1 < (cn : Int) := by omega
        have b6 : ((cn : Int) - 1).toNat = cn - 1 := by omega
        go_wp2
        go_quiet ((go_at_call 15; exact Calls.quiet_of_same (hcnt _)))
        have S2 := S1.quiet ((Keeps.refl (fun _ => False) wc).drewN nq)
        clear S1 hcnt c1 c0 d2 hcok
        generalize wc.drewN nq = w2 at *
        go_wp2
        have hfew := T.few
        have hnk' := HN.out
        refine chk4_loop w0 inn c cn HCN.out.symm (by omega) hclf hcst _ _ R hcR (by omega) (by omega) _ _ _ _ _ _ _ _ _ _ _ _ _ _ _ _ _ _ _ _ _ _ _ _ _ _ _ _ _ _ _ _ _ _ _ _ _ _ _ _ _ _ _ _ _ _ _ _ _ _ _ _ _ _ _ _ _ _ _ _ _ _ _ _ _ _ _ _ _ _ _ _ _ _ _ _ _ _ _ _ _ _ _ _ _ _ _ _ _ _ _ _ _ _ _ _ _ _ _ _ _ _ _ _ _ _ _ _ _ _ _ _ _ _ _ _ _ _ _ _ _ _ _ _ _ _ _ _ _ _ _ _ _ _ _ _ _ _ _ _ _ _ _ _ _ _ _ _ _ _ _ _ _ _ _ _ _ _ _ _ _ _ _ _ _ _ _ _ _ _ _ _ _ _ _ _ _ _ _ _ _ _ _ _ _ _ _ _ _ _ _ _ _ _ _ _ _ _ _ _ _ _ _ _ _ _ _ _ _ _ _ _ _ _ _ _ _ _ _ _ _ _ _ _ _ _ _ _ _ _ _ _ _ _ _ _ _ _ _ _ _ _ _ _ _ _ _ _ _ _ _ _ _ _ _ _ _ _ _ _ _ _ _ _ _ _ _ _ _ _ _ _ _ _ _ _ _ _ _ _ _ _ _ _ _ _ _ _ _ _ _ _ _ _ _ _ _ _ _ _ _ _ _ _ _ _ _ _ _ _ _ _ _ _ _ _ _ _ _ _ _ _ _ _ _ _ _ _ _ _ _ _ _ _ _ _ _ _ _ _ _ _ _ _ _ _ _ _ _ _ _ _ _ _ _ _ _ _ _ _ _ _ _ _ _ _ _ _ _ _ _ _ _ _ _ _ _ _ _ _ _ _ _ _ _ _ _ _ _ _ _ _ _ _ _ _ _ _ _ _ _ _ _ _ _ _ _ _ _ _ _ _ _ _ _ _ _ _ _ _ _ _ _ _ _ _ _ _ _ _ _ _ _ _ _ w2 S2 _ ?_
        clear S2 hnk'
        intro y26 y27 y378 y379 y380 y381 y382 y383 y384 y385 y386 y387 y388 y389 y390 y391 y392 y393 y394 y395 y396 y397 y398 y399 y400 y401 w3 S3
        conv => zeta
        have S3' : Sep w0 w3 (Res.row 9 y26 (oks (inord ((kids.take m).map K.ks) (P.ks.take m) ++ c.ks)) :: Res.row 24 y27 (allKids (kids.take m) ++ c.gs.take cn) :: R) := S3
        clear S3
        generalize hseq : inord ((kids.take m).map K.ks) (P.ks.take m) = seq at *
        generalize hgs0 : allKids (kids.take m) = gs0 at *
        have HSQ := Hid.mk' hseq
        have HGS := Hid.mk' hgs0
        clear hseq hgs0
        go_upto_if 402 with fail
        go_cut [27] from 332 to 429 (fun vG' wc => Sep w0 wc (Res.row 9 y26 (oks (seq ++ c.ks)) :: Res.row 24 vG' (gs0 ++ c.gs) :: R))
        case first =>
          have hcok : c.ok w3 := S3'.all (Res.k c) (by simp [hcR])
          cases inn with
          | false =>
            go_wp2
            go_meet
            case rel => rw [(hclf.1 rfl).2] at S3' ⊢; simpa using S3'
          | true =>
            have hgl : c.gs.length = cn + 1 := by rw [hclf.2 rfl, HCN.out]
            have kd := (Keeps.refl (fun _ => False) w3).drew
            have hcokd := K.keepF hcok kd
            obtain ⟨gk2, ck2, hvk2, hnk2, hck2, hobk2, hlk2, hcellk2⟩ := own_some hcokd.kid (by omega)
            obtain ⟨-, -, c2, -⟩ := K.cells hcokd
            rw [hvk2, hgl] at c2
            obtain ⟨ag, hag⟩ := ptr_at hcok.ptr cn (by omega)
            have d3 : w3.drew.cell? ⟨gk2, cn, none⟩ = some (.pointer ag) := (hcellk2 cn (by omega)).trans hag
            have hcntd : Calls Yba.prog 15 #[.pointer (some ⟨c.p, 0, none⟩)] w3.drew fun r w' => r = .returned (.int .i64 cn) ∧ w3.drew = w' := by
              have := count_q hcokd c.p rfl; rw [HCN.out] at this; exact this
            have ko := kd.alloc (.cells #[Value.pointer ag] 24)
            have t0 := ko.cells (fun h => h) (show w3.cell? ⟨c.p, 2, none⟩ = _ from c2)
            have t1 := ko.cells (fun h => h) (show w3.cell? ⟨gk2, cn, none⟩ = _ from d3)
            have S4 := (S3'.quiet ko).p2
            have hnext : gs0 ++ c.gs = (gs0 ++ c.gs.take cn) ++ [.pointer ag] := by
              have hlt' : cn < c.gs.length := by omega
              have e1 : c.gs[cn] = .pointer ag := by rw [List.getElem?_eq_getElem hlt'] at hag; simpa using hag
              conv => lhs; rw [← List.take_of_length_le (show c.gs.length ≤ cn + 1 by omega), List.take_succ_eq_append_getElem hlt', e1]
              rw [List.append_assoc]
            have HNX := Hid.mk' hnext
            have hggl : (gs0 ++ c.gs.take cn).length ≤ 20000 := by rw [List.length_append, List.length_take]; omega
            have hG1 : (w3.drew.alloc (.cells #[Value.pointer ag] 24)).ownsRow 0 24 1 y27 (gs0 ++ c.gs.take cn).length (gs0 ++ c.gs.take cn) := S4.head
            have hso : Src (w3.drew.alloc (.cells #[Value.pointer ag] 24)) 1 (.slice (some ⟨w3.heap.size, 0, none⟩) 1 1) 1 [.pointer ag] := Src.one_new w3.drew (.pointer ag) 24 rfl
            have hdis : ∀ b, y27.ownBlock = some b → ¬ c.foot b := (List.pairwise_cons.1 S4.dis).1 (Res.k c) (by simp [hcR])
            have hdp : y27.ownBlock ≠ some c.p := fun e => hdis _ e (.inl rfl)
            have hdk : y27.ownBlock ≠ some gk2 := fun e => hdis _ e (.inr (.inr (.inr hobk2)))
            clear hnext hcellk2 hag hgl hclf hvk2 hdis
            generalize gs0 ++ c.gs.take cn = gg at *
            have b7 : (cn : Int) < (cn : Int) + 1 := by omega
            have b8 : (0 : Int) ≤ (cn : Int) := by omega
            go_upto_region 87 with fail
            refine wp_region_noPanic ?_
            go_region_held3 (fun w' => w'.cell? ⟨c.p, 2, none⟩ = some (.slice (some ⟨gk2, 0, none⟩) (cn + 1) ck2) ∧ w'.cell? ⟨gk2, cn, none⟩ = some (.pointer ag)) (first | exact ⟨c2, d3⟩ | exact ⟨t0, t1⟩ | assumption) ((first | (go_at_call 15; refine hcntd.mono ?_; rintro r w' ⟨rfl, rfl⟩) | (refine step_app rfl (.tmp 403) (.tmp 412) 27 rfl 24 i24 (.pointer none) 1 8 Yba.underlying27 hi24 hz24 hs24 hb24 rfl (by omega) y27 gg.length gg rfl hG1 (.slice (some ⟨w3.heap.size, 0, none⟩) 1 1) rfl 1 [.pointer ag] hso (by unfold maxLen; omega) (by omega) ?_; intro x9 w9 hA9 hn9; have e9 : w9.cell? ⟨c.p, 2, none⟩ = some (.slice (some ⟨gk2, 0, none⟩) (cn + 1) ck2) ∧ w9.cell? ⟨gk2, cn, none⟩ = some (.pointer ag) := ⟨hA9.keeps.cells hdp t0, hA9.keeps.cells hdk t1⟩)))
            all_goals
              have S5 := (S4.app hA9).p2
              refine NoPanic.normal ?_
              go_wp2
              go_meet
              case rel => rw [HNX.out]; exact S5
        case rest =>
          clear S3'
          have S5 := hcut
          clear hcut
          have hPok : P.ok wc := S5.all (Res.k P) (by simp [hP])
          obtain ⟨-, -, p2, -⟩ := K.cells hPok
          rw [hvk] at p2
          have hnk' := HN.out
          have hgn : allKids (kids.take (m + 1)) = gs0 ++ c.gs := by
            rw [HTk.out, ← HGS.out]; unfold allKids; simp
          have hgnl : (gs0 ++ c.gs).length ≤ 70 * (m + 1) := by
            rw [List.length_append]
            cases inn with
            | false => rw [(hclf.1 rfl).2]; simp; omega
            | true => rw [hclf.2 rfl, HCN.out]; omega
          have hcl := HCN.out
          have hfw := T.few
          have hnkb : nk ≤ 100 := by omega
          clear hfw
          by_cases hl1 : m + 1 < nk
          · have hd : decide ((m : Int) < (nk : Int) - 1) = true := by simp; omega
            have hPm : m < P.ks.length := by omega
            have hsP := T.pst P.ks[m] (by simp)
            have hsn : inord ((kids.take (m + 1)).map K.ks) (P.ks.take (m + 1)) = seq ++ (c.ks ++ [P.ks[m]]) := by
              rw [HTk.out, List.map_append, List.take_succ_eq_append_getElem hPm, ← HSQ.out]
              exact inord_next _ _ _ _ (by simp; omega)
            have hsl : (seq ++ (c.ks ++ [P.ks[m]])).length ≤ 70 * (m + 1) := by
              rw [List.length_append, List.length_append]; simp; omega
            have hon : oks (seq ++ (c.ks ++ [P.ks[m]])) = oks (seq ++ c.ks) ++ [.string (unS P.ks[m])] := by
              rw [← List.append_assoc, oks_append (seq ++ c.ks)]; rfl
            have hol : (oks (seq ++ c.ks)).length ≤ 20000 := by rw [oks_length, List.length_append]; omega
            have HSN := Hid.mk' hsn
            have HON := Hid.mk' hon
            have HSL := Hid.mk' hsl
            have HGN := Hid.mk' hgn
            clear hsn hon hsl hgn hnk' hcl
            generalize hO : oks (seq ++ c.ks) = O at *
            clear hO
            go_wp2_with fail
            refine (key_q hPok P.p rfl m hPm).mono ?_
            rintro r w4' ⟨o2, cc2, nq2, rfl, rfl, hs2, hk2, hk3⟩
            have S6 := S5.quiet ((Keeps.refl (fun _ => False) wc).drewN nq2)
            have hok1 : P.ok (wc.drewN nq2) := S6.all (Res.k P) (by simp [hP])
            have hcv2 := conv_src (hs2 _ hok1) hk2 hsP
            generalize hkX : P.ks[m] = kX at *
            clear hkX
            generalize wc.drewN nq2 = w5 at *
            clear S5 hs2 hPok p2
            have ko := (Keeps.refl (fun _ => False) w5).alloc (.cells #[Value.string (unS kX)] 9)
            have S7 := S6.quiet ko
            have hO : (w5.alloc (.cells #[Value.string (unS kX)] 9)).ownsRow 0 9 1 y26 O.length O := S7.head
            go_wp2_with (at_builtin; refine wpList_app _ rfl (.tmp 422) (.tmp 427) 22 rfl 9 i9 (.string ⟨#[]⟩) 1 16 Yba.underlying22 hi9 hz9 hs9 hb9 rfl (by omega) y26 O.length O rfl hO 1 [.string (unS kX)] (Src.one_new w5 _ _ rfl) (by unfold maxLen; omega) (by omega) ?_; intro x7 w7 hA7 hn7)
            have S8 := S7.app hA7
            rw [← HON.out] at S8
            go_roundw
            case rel => exact ⟨m + 1, by omega, by go_num, by rw [HSN.out]; exact HSL.out, by rw [HGN.out]; exact hgnl, by rw [HSN.out, HGN.out]; exact S8⟩
            case measure => simp [intOf]; omega
          · have hd : decide ((m : Int) < (nk : Int) - 1) = false := by simp; omega
            have hsn : inord ((kids.take (m + 1)).map K.ks) (P.ks.take (m + 1)) = seq ++ c.ks := by
              rw [HTk.out, List.map_append, ← HSQ.out, List.take_of_length_le (show P.ks.length ≤ m + 1 by omega), List.take_of_length_le (show P.ks.length ≤ m by omega)]
              exact inord_last _ _ _ (by simp; omega)
            have hsl : (seq ++ c.ks).length ≤ 70 * (m + 1) := by rw [List.length_append]; omega
            have HSN := Hid.mk' hsn
            have HSL := Hid.mk' hsl
            have HGN := Hid.mk' hgn
            clear hsn hsl hgn hnk' hcl
            go_wp2
            go_roundw
            case rel => exact ⟨m + 1, by omega, by go_num, by rw [HSN.out]; exact HSL.out, by rw [HGN.out]; exact hgnl, by rw [HSN.out, HGN.out]; exact S5⟩
            case measure => simp [intOf]; omega
    · obtain rfl : m = nk := by omega
      have S' : Sep w0 wr (Res.row 9 u26 (oks (allKeys P kids)) :: Res.row 24 u27 (allKids kids) :: R) := by
        rw [List.take_of_length_le (show kids.length ≤ m by omega), List.take_of_length_le (show P.ks.length ≤ m by omega)] at S
        exact S
      clear S hnk
      go_wp2
      exact S'

end Go.Proofs.Ybulkcday
