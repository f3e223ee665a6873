import Derived.Test.Qxb6609296aL9
namespace Go.Proofs.Qxb6609296a
open Go.RowKit Srt

set_option maxRecDepth 100000 in
set_option maxHeartbeats 8000000 in
theorem S10 (W : World) (RB n ci : Nat) (ai : Option Addr) (ids : List ByteArray) (D : Nat → Nat) (hn : n ≤ 4096) (hc : n ≤ ci) (hcm : ci ≤ maxLen) (hids : Strs W (fun b => b ≠ RB) ai n ids) (hprm : Prm 0 n id D) (hsrt : SortedTo (idLt ids) D n) (Qx : Exit → Act → World → Prop) (v0 v1 v3 v4 v5 v6 v7 v8 v9 v10 v11 v14 v15 v16 v17 v18 v19 v20 v21 v22 v23 v24 v25 v26 v27 v28 v29 v30 v31 v32 v33 v34 v35 v36 v37 v38 v39 v40 v41 v42 v43 v44 v45 v46 v47 v48 v49 v50 v51 v52 v53 v54 v55 v56 v57 v58 v59 v60 v61 v62 v63 v64 v65 v66 v67 v68 v69 v70 v71 v72 v73 v74 v75 v76 v77 v78 v79 v80 v81 v82 v83 v84 v85 v86 v87 v88 v89 v90 v91 v92 v93 v94 v95 v96 v97 v98 v99 v100 v101 v102 v103 v104 v105 v106 v107 v108 v109 v110 v111 v112 v113 v114 v115 v116 v117 v118 v119 v120 v121 v122 v123 v124 v125 v126 v127 v128 v129 v130 v131 v132 v133 v134 v135 v136 v137 v138 v139 v140 v141 v142 v143 v144 v145 v146 v147 v148 v149 v150 v151 v152 v153 v154 v155 v156 v157 v158 v159 v160 v161 v162 v163 v164 v165 v166 v167 v168 v169 v170 v171 v172 v173 v174 v175 v176 v177 v178 v179 v180 v181 v182 v183 v184 v185 v186 v187 v188 v189 v190 v191 v192 v193 v194 v195 v196 v197 v198 v199 v200 v201 v202 v203 v204 v205 v206 v207 v208 v209 v210 v211 v212 v213 v214 v215 v216 v217 v218 v219 v220 v221 v222 v223 v224 v225 v226 v227 v228 v229 v230 v231 v232 v233 v234 v235 v236 v237 v238 v239 v240 v241 v242 v243 v244 v245 v246 v247 v248 v249 v250 v251 v252 v253 v254 v255 v256 v257 v258 v259 v260 v261 v262 v263 v264 v265 v266 v267 v268 v269 v270 v271 v272 v273 v274 v275 v276 v277 v278 v279 v280 v281 v282 v283 v284 v285 v286 v287 v288 v289 v290 v291 v292 v293 v294 v295 v296 v297 v298 v299 v300 v301 v302 v303 v304 v305 v306 v307 v308 v309 v310 v311 v312 v313 v314 v315 v316 v317 v318 v319 v320 v321 v322 v323 v324 v325 v326 v327 v328 v329 v330 v331 v332 v333 v334 v335 v336 v337 v338 v339 v340 v341 v342 v343 v344 v345 v346 v347 v348 v349 v350 v351 v352 v353 v354 v355 v356 v357 v358 v359 v360 v361 v362 v363 v364 v365 v366 v367 v368 v369 v370 v371 v372 v373 v374 v375 v376 v377 v378 v379 v380 v381 v382 v383 v384 v385 v386 v387 v388 v389 v390 v391 v392 v393 v394 v395 v396 v397 v398 v399 v400 v401 v402 v403 v404 v405 v406 v407 v408 v409 v410 v411 v412 v413 v414 v415 v416 v417 v418 v419 v420 v421 v422 v423 v424 v425 v426 v427 v428 v429 v430 v431 v432 v433 v434 v435 v436 v437 v438 v439 v440 v441 v442 v443 v444 v445 v446 v447 v448 v449 v450 v451 v452 v453 v454 v455 v456 v457 v458 v459 v460 v461 v462 v463 v464 v465 v466 v467 v468 v469 v470 v471 v472 v473 v474 v475 v476 v477 v478 v479 v480 v481 v482 v483 v484 v485 v486 v487 v488 v489 v490 v491 v492 v493 v494 v495 v496 v497 v498 v499 v500 v501 v502 v503 v504 v505 v506 v507 v508 v509 v510 v511 v512 v513 v514 v515 v516 v517 v518 v519 v520 v521 v522 v523 v524 v525 v526 v527 v528 v529 : Value) (w : World) (h : Rw W RB 24 n (fun i => .int .u32 (D i)) w)
    (hR : ∀ (u18 u176 u177 u178 u179 u180 u181 u182 u183 u184 u185 u186 u187 u188 u189 u190 u191 u192 u193 u194 u195 u196 : Value) (w' : World), Rw W RB 24 n (fun i => .int .u32 (D i)) w' → Qx .ret { tmps := #[v0, v1, .slice ai n ci, v3, v4, v5, v6, v7, v8, v9, .bool true, v11, .int .i64 (n : Nat), .slice (some ⟨RB, 0, none⟩) n n, v14, v15, v16, v17, u18, v19, v20, v21, v22, v23, v24, v25, v26, v27, v28, v29, v30, v31, v32, v33, v34, v35, v36, v37, v38, v39, v40, v41, v42, v43, v44, v45, v46, v47, v48, v49, v50, v51, v52, v53, v54, v55, v56, v57, v58, v59, v60, v61, v62, v63, v64, v65, v66, v67, v68, v69, v70, v71, v72, v73, v74, v75, v76, v77, v78, v79, v80, v81, v82, v83, v84, v85, v86, v87, v88, v89, v90, v91, v92, v93, v94, v95, v96, v97, v98, v99, v100, v101, v102, v103, v104, v105, v106, v107, v108, v109, v110, v111, v112, v113, v114, v115, v116, v117, v118, v119, v120, v121, v122, v123, v124, v125, v126, v127, v128, v129, v130, v131, v132, v133, v134, v135, v136, v137, v138, v139, v140, v141, v142, v143, v144, v145, v146, v147, v148, v149, v150, v151, v152, v153, v154, v155, v156, v157, v158, v159, v160, v161, v162, v163, v164, v165, v166, v167, v168, v169, v170, v171, v172, v173, v174, v175, u176, u177, u178, u179, u180, u181, u182, u183, u184, u185, u186, u187, u188, u189, u190, u191, u192, u193, u194, u195, u196, v197, v198, v199, v200, v201, v202, v203, v204, v205, v206, v207, v208, v209, v210, v211, v212, v213, v214, v215, v216, v217, v218, v219, v220, v221, v222, v223, v224, v225, v226, v227, v228, v229, v230, v231, v232, v233, v234, v235, v236, v237, v238, v239, v240, v241, v242, v243, v244, v245, v246, v247, v248, v249, v250, v251, v252, v253, v254, v255, v256, v257, v258, v259, v260, v261, v262, v263, v264, v265, v266, v267, v268, v269, v270, v271, v272, v273, v274, v275, v276, v277, v278, v279, v280, v281, v282, v283, v284, v285, v286, v287, v288, v289, v290, v291, v292, v293, v294, v295, v296, v297, v298, v299, v300, v301, v302, v303, v304, v305, v306, v307, v308, v309, v310, v311, v312, v313, v314, v315, v316, v317, v318, v319, v320, v321, v322, v323, v324, v325, v326, v327, v328, v329, v330, v331, v332, v333, v334, v335, v336, v337, v338, v339, v340, v341, v342, v343, v344, v345, v346, v347, v348, v349, v350, v351, v352, v353, v354, v355, v356, v357, v358, v359, v360, v361, v362, v363, v364, v365, v366, v367, v368, v369, v370, v371, v372, v373, v374, v375, v376, v377, v378, v379, v380, v381, v382, v383, v384, v385, v386, v387, v388, v389, v390, v391, v392, v393, v394, v395, v396, v397, v398, v399, v400, v401, v402, v403, v404, v405, v406, v407, v408, v409, v410, v411, v412, v413, v414, v415, v416, v417, v418, v419, v420, v421, v422, v423, v424, v425, v426, v427, v428, v429, v430, v431, v432, v433, v434, v435, v436, v437, v438, v439, v440, v441, v442, v443, v444, v445, v446, v447, v448, v449, v450, v451, v452, v453, v454, v455, v456, v457, v458, v459, v460, v461, v462, v463, v464, v465, v466, v467, v468, v469, v470, v471, v472, v473, v474, v475, v476, v477, v478, v479, v480, v481, v482, v483, v484, v485, v486, v487, v488, v489, v490, v491, v492, v493, v494, v495, v496, v497, v498, v499, v500, v501, v502, v503, v504, v505, v506, v507, v508, v509, v510, v511, v512, v513, v514, v515, v516, v517, v518, v519, v520, v521, v522, v523, v524, v525, v526, v527, v528, v529], defers := [] } w')
    (hK : ∀ (u10 u18 u176 u177 u178 u179 u180 u181 u182 u183 u184 u185 u186 u187 u188 u189 u190 u191 u192 u193 u194 u195 u196 : Value) (w' : World), Rw W RB 24 n (fun i => .int .u32 (D i)) w' → (∀ a b, a < b → b < n → idLt ids (D a) (D b)) → Qx .normal { tmps := #[v0, v1, .slice ai n ci, v3, v4, v5, v6, v7, v8, v9, u10, v11, .int .i64 (n : Nat), .slice (some ⟨RB, 0, none⟩) n n, v14, v15, v16, v17, u18, v19, v20, v21, v22, v23, v24, v25, v26, v27, v28, v29, v30, v31, v32, v33, v34, v35, v36, v37, v38, v39, v40, v41, v42, v43, v44, v45, v46, v47, v48, v49, v50, v51, v52, v53, v54, v55, v56, v57, v58, v59, v60, v61, v62, v63, v64, v65, v66, v67, v68, v69, v70, v71, v72, v73, v74, v75, v76, v77, v78, v79, v80, v81, v82, v83, v84, v85, v86, v87, v88, v89, v90, v91, v92, v93, v94, v95, v96, v97, v98, v99, v100, v101, v102, v103, v104, v105, v106, v107, v108, v109, v110, v111, v112, v113, v114, v115, v116, v117, v118, v119, v120, v121, v122, v123, v124, v125, v126, v127, v128, v129, v130, v131, v132, v133, v134, v135, v136, v137, v138, v139, v140, v141, v142, v143, v144, v145, v146, v147, v148, v149, v150, v151, v152, v153, v154, v155, v156, v157, v158, v159, v160, v161, v162, v163, v164, v165, v166, v167, v168, v169, v170, v171, v172, v173, v174, v175, u176, u177, u178, u179, u180, u181, u182, u183, u184, u185, u186, u187, u188, u189, u190, u191, u192, u193, u194, u195, u196, v197, v198, v199, v200, v201, v202, v203, v204, v205, v206, v207, v208, v209, v210, v211, v212, v213, v214, v215, v216, v217, v218, v219, v220, v221, v222, v223, v224, v225, v226, v227, v228, v229, v230, v231, v232, v233, v234, v235, v236, v237, v238, v239, v240, v241, v242, v243, v244, v245, v246, v247, v248, v249, v250, v251, v252, v253, v254, v255, v256, v257, v258, v259, v260, v261, v262, v263, v264, v265, v266, v267, v268, v269, v270, v271, v272, v273, v274, v275, v276, v277, v278, v279, v280, v281, v282, v283, v284, v285, v286, v287, v288, v289, v290, v291, v292, v293, v294, v295, v296, v297, v298, v299, v300, v301, v302, v303, v304, v305, v306, v307, v308, v309, v310, v311, v312, v313, v314, v315, v316, v317, v318, v319, v320, v321, v322, v323, v324, v325, v326, v327, v328, v329, v330, v331, v332, v333, v334, v335, v336, v337, v338, v339, v340, v341, v342, v343, v344, v345, v346, v347, v348, v349, v350, v351, v352, v353, v354, v355, v356, v357, v358, v359, v360, v361, v362, v363, v364, v365, v366, v367, v368, v369, v370, v371, v372, v373, v374, v375, v376, v377, v378, v379, v380, v381, v382, v383, v384, v385, v386, v387, v388, v389, v390, v391, v392, v393, v394, v395, v396, v397, v398, v399, v400, v401, v402, v403, v404, v405, v406, v407, v408, v409, v410, v411, v412, v413, v414, v415, v416, v417, v418, v419, v420, v421, v422, v423, v424, v425, v426, v427, v428, v429, v430, v431, v432, v433, v434, v435, v436, v437, v438, v439, v440, v441, v442, v443, v444, v445, v446, v447, v448, v449, v450, v451, v452, v453, v454, v455, v456, v457, v458, v459, v460, v461, v462, v463, v464, v465, v466, v467, v468, v469, v470, v471, v472, v473, v474, v475, v476, v477, v478, v479, v480, v481, v482, v483, v484, v485, v486, v487, v488, v489, v490, v491, v492, v493, v494, v495, v496, v497, v498, v499, v500, v501, v502, v503, v504, v505, v506, v507, v508, v509, v510, v511, v512, v513, v514, v515, v516, v517, v518, v519, v520, v521, v522, v523, v524, v525, v526, v527, v528, v529], defers := [] } w') :
    (headS (dropS 10 body7)).wp Try.prog Qx { tmps := #[v0, v1, .slice ai n ci, v3, v4, v5, v6, v7, v8, v9, v10, v11, .int .i64 (n : Nat), .slice (some ⟨RB, 0, none⟩) n n, v14, v15, v16, v17, v18, v19, v20, v21, v22, v23, v24, v25, v26, v27, v28, v29, v30, v31, v32, v33, v34, v35, v36, v37, v38, v39, v40, v41, v42, v43, v44, v45, v46, v47, v48, v49, v50, v51, v52, v53, v54, v55, v56, v57, v58, v59, v60, v61, v62, v63, v64, v65, v66, v67, v68, v69, v70, v71, v72, v73, v74, v75, v76, v77, v78, v79, v80, v81, v82, v83, v84, v85, v86, v87, v88, v89, v90, v91, v92, v93, v94, v95, v96, v97, v98, v99, v100, v101, v102, v103, v104, v105, v106, v107, v108, v109, v110, v111, v112, v113, v114, v115, v116, v117, v118, v119, v120, v121, v122, v123, v124, v125, v126, v127, v128, v129, v130, v131, v132, v133, v134, v135, v136, v137, v138, v139, v140, v141, v142, v143, v144, v145, v146, v147, v148, v149, v150, v151, v152, v153, v154, v155, v156, v157, v158, v159, v160, v161, v162, v163, v164, v165, v166, v167, v168, v169, v170, v171, v172, v173, v174, v175, v176, v177, v178, v179, v180, v181, v182, v183, v184, v185, v186, v187, v188, v189, v190, v191, v192, v193, v194, v195, v196, v197, v198, v199, v200, v201, v202, v203, v204, v205, v206, v207, v208, v209, v210, v211, v212, v213, v214, v215, v216, v217, v218, v219, v220, v221, v222, v223, v224, v225, v226, v227, v228, v229, v230, v231, v232, v233, v234, v235, v236, v237, v238, v239, v240, v241, v242, v243, v244, v245, v246, v247, v248, v249, v250, v251, v252, v253, v254, v255, v256, v257, v258, v259, v260, v261, v262, v263, v264, v265, v266, v267, v268, v269, v270, v271, v272, v273, v274, v275, v276, v277, v278, v279, v280, v281, v282, v283, v284, v285, v286, v287, v288, v289, v290, v291, v292, v293, v294, v295, v296, v297, v298, v299, v300, v301, v302, v303, v304, v305, v306, v307, v308, v309, v310, v311, v312, v313, v314, v315, v316, v317, v318, v319, v320, v321, v322, v323, v324, v325, v326, v327, v328, v329, v330, v331, v332, v333, v334, v335, v336, v337, v338, v339, v340, v341, v342, v343, v344, v345, v346, v347, v348, v349, v350, v351, v352, v353, v354, v355, v356, v357, v358, v359, v360, v361, v362, v363, v364, v365, v366, v367, v368, v369, v370, v371, v372, v373, v374, v375, v376, v377, v378, v379, v380, v381, v382, v383, v384, v385, v386, v387, v388, v389, v390, v391, v392, v393, v394, v395, v396, v397, v398, v399, v400, v401, v402, v403, v404, v405, v406, v407, v408, v409, v410, v411, v412, v413, v414, v415, v416, v417, v418, v419, v420, v421, v422, v423, v424, v425, v426, v427, v428, v429, v430, v431, v432, v433, v434, v435, v436, v437, v438, v439, v440, v441, v442, v443, v444, v445, v446, v447, v448, v449, v450, v451, v452, v453, v454, v455, v456, v457, v458, v459, v460, v461, v462, v463, v464, v465, v466, v467, v468, v469, v470, v471, v472, v473, v474, v475, v476, v477, v478, v479, v480, v481, v482, v483, v484, v485, v486, v487, v488, v489, v490, v491, v492, v493, v494, v495, v496, v497, v498, v499, v500, v501, v502, v503, v504, v505, v506, v507, v508, v509, v510, v511, v512, v513, v514, v515, v516, v517, v518, v519, v520, v521, v522, v523, v524, v525, v526, v527, v528, v529], defers := [] } w := by
  have H : Hid (Rw W RB 24 n (fun i => .int .u32 (D i)) w) := h
  have HI : Hid (Strs W (fun b => b ≠ RB) ai n ids) := hids
  have HP : Hid (Prm 0 n id D ∧ SortedTo (idLt ids) D n) := ⟨hprm, hsrt⟩
  have HK := (show Hid _ from hK)
  have HR := (show Hid _ from hR)
  unfold maxLen at hcm
  clear h hK hids hR hprm hsrt
  unfold body7 Try.f7
  simp only [Option.getD_some, dropS, headS]
  go_wp2_with fail
  go_loopw [18] (fun p x => ∃ (i : Nat), 1 ≤ i ∧ (i ≤ n ∨ i = 1) ∧ p = .int .i64 i ∧ Rw W RB 24 n (fun i => .int .u32 (D i)) x ∧ (∀ t, 0 < t → t < i → idLt ids (D (t - 1)) (D t))) (fun p _ => n - (intOf p).toNat)
  case atStart => exact ⟨1, Nat.le_refl _, .inr rfl, rfl, H.out, fun t h1 h2 => by omega⟩
  case round =>
    obtain ⟨i, hi1, hi2, rfl, hst, hlo⟩ := hrel
    have HS : Hid (Rw W RB 24 n (fun i => .int .u32 (D i)) wr ∧ (∀ t, 0 < t → t < i → idLt ids (D (t - 1)) (D t))) := ⟨hst, hlo⟩
    clear hst hlo H
    by_cases hlt : i < n
    · have hlt' : (i : Int) < (n : Int) := by omega
      obtain ⟨ib, io, rfl, hibR, hcs⟩ := HI.out (by omega)
      have hDn : ∀ t, t < n → D t < n := fun t ht => by
        obtain ⟨j, _, j2, e⟩ := HP.out.1.mem (k := t) (Nat.zero_le _) ht
        rw [e]; exact j2
      have k1 : IntKind.i64.wrap ((i : Int) - 1) = (i : Int) - 1 := by rw [IntKind.wrap_i64]; omega
      have z1 : (0 : Int) ≤ (i : Int) - 1 := by omega
      have l1 : (i : Int) - 1 < (n : Int) := by omega
      have t1 : ((i : Int) - 1).toNat = i - 1 := by omega
      have c1 := HS.out.1.cell hlt
      have c2 := HS.out.1.cell (k := i - 1) (by omega)
      try simp only at c1 c2
      obtain ⟨x, hx⟩ : ∃ x, x = D i := ⟨_, rfl⟩
      obtain ⟨y, hy⟩ : ∃ y, y = D (i - 1) := ⟨_, rfl⟩
      have hxn : x < n := by rw [hx]; exact hDn i hlt
      have hyn : y < n := by rw [hy]; exact hDn (i - 1) (by omega)
      rw [← hx] at c1
      rw [← hy] at c2
      have hxn' : (x : Int) < (n : Int) := by omega
      have hyn' : (y : Int) < (n : Int) := by omega
      have kqx := HS.out.1.kq
      have c3 := (kqx.cell (p := ⟨ib, io + x, none⟩) ⟨hibR, World.block_lt_of_cell? _ _ (hcs x hxn)⟩).trans (hcs x hxn)
      have c4 := (kqx.cell (p := ⟨ib, io + y, none⟩) ⟨hibR, World.block_lt_of_cell? _ _ (hcs y hyn)⟩).trans (hcs y hyn)
      obtain ⟨s1, hs1⟩ : ∃ s, s = ids.getD x ByteArray.empty := ⟨_, rfl⟩
      obtain ⟨s2, hs2⟩ : ∃ s, s = ids.getD y ByteArray.empty := ⟨_, rfl⟩
      rw [← hs1] at c3
      rw [← hs2] at c4
      have hns := HP.out.2 (i - 1) i (by omega) hlt
      have HN : Hid (¬ slt s1 s2 ∧ (slt s2 s1 → idLt ids (D (i - 1)) (D i))) := by
        unfold idLt at hns ⊢
        rw [← hx, ← hy, ← hs1, ← hs2] at hns
        refine ⟨hns, fun h => ?_⟩
        rw [← hx, ← hy, ← hs1, ← hs2]; exact h
      clear hx hy hs1 hs2 kqx hDn hns hcs hibR
      by_cases he : s1 = s2
      · subst he
        have hb := ba_same s1
        go_wp2_with fail
        go_quiet (fail)
        go_wp2_with fail
        exact HR.out _ _ _ _ _ _ _ _ _ _ _ _ _ _ _ _ _ _ _ _ _ _ _ (HS.out.1.drewN _)
      · have hb := ba_diff he
        have hb2 : decide (s1 = s2) = false := decide_eq_false he
        have hb3 : (s1.toList == s2.toList) = false := by rw [beq_eq_false_iff_ne, ByteArray.toList_eq, ByteArray.toList_eq]; exact fun h => he (ba_ext h)
        have HE : Hid (idLt ids (D (i - 1)) (D i)) := HN.out.2 (slt.of_not HN.out.1 he)
        go_wp2_with fail
        go_quiet (fail)
        go_wp2_with fail
        go_roundw
        case rel =>
          refine ⟨i + 1, by omega, .inl (by omega), by go_num, HS.out.1.drewN _, fun t h1 h2 => ?_⟩
          by_cases e : t = i
          · rw [e]; exact HE.out
          · exact HS.out.2 t h1 (by omega)
        case measure => simp [intOf]; omega
    · have hge : ¬ (i : Int) < (n : Int) := by omega
      have HX : Hid (∀ a b, a < b → b < n → idLt ids (D a) (D b)) := by
        intro a b hab hb
        have : ∀ d a, a + d + 1 < n → idLt ids (D a) (D (a + d + 1)) := by
          intro d
          induction d with
          | zero => intro a ha; have := HS.out.2 (a + 1) (by omega) (by omega); simpa using this
          | succ d ih =>
            intro a ha
            have h6 := HS.out.2 (a + d + 1 + 1) (by omega) (by omega)
            rw [show a + d + 1 + 1 - 1 = a + d + 1 by omega] at h6
            exact (ih a (by omega)).trans h6
        have h5 := this (b - a - 1) a (by omega)
        rw [show a + (b - a - 1) + 1 = b by omega] at h5
        exact h5
      clear hi2
      go_wp2_with fail
      exact HK.out _ _ _ _ _ _ _ _ _ _ _ _ _ _ _ _ _ _ _ _ _ _ _ wr HS.out.1 HX.out
end Go.Proofs.Qxb6609296a
