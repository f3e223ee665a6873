import Derived.Test.Qxb6609296aChk
namespace Go.Proofs.Qxb6609296a
open Go.RowKit Srt

set_option maxRecDepth 100000 in
set_option maxHeartbeats 8000000 in
theorem SG0 (AB GB m cap G gc gi wl wc N dc : Nat) (av wa da : Option Addr) (ga : Option Addr) (key : Int) (hkey : key = (-1)) (vals : Nat → Int) (g : Gv) (ns nm ct rs : ByteArray) (ws : List ByteArray) (_hm4 : m ≤ 4096) (_hmc : m ≤ cap) (_hcm : cap ≤ maxLen) 
    (hgi : gi < G) (hG : G ≤ gc) (hgc : gc ≤ maxLen) (hga : ga = some ⟨GB, 0, none⟩) (hwl : wl = ws.length) (hw0 : 0 < wl) (hwm : wl ≤ 1048576)
    (Qx : Exit → Act → World → Prop) {v0 v1 v2 v3 v4 v5 v6 v7 v8 v9 v10 v11 v12 v13 v14 v15 v16 v17 v18 v19 v20 v21 v22 v23 v24 v25 v27 v28 v29 v30 v31 v33 v34 v35 v36 v38 v40 v41 v42 v43 v46 v47 v48 v49 v50 v51 v52 v53 v54 v55 v56 v57 v58 v59 v60 v61 v62 v63 v64 v65 v66 v67 v68 v69 v70 v71 v72 v73 v74 v75 v76 v77 v78 v79 v80 v81 v82 v83 v84 v85 v86 v87 v88 v89 v90 v91 v92 v93 v94 v95 v96 v97 v98 v99 v100 v101 v102 v103 v104 v105 v106 v107 v108 v109 v110 v111 v112 v113 v114 v115 v116 v117 v118 v119 v120 v121 v122 v123 v124 v125 v126 v127 v128 v129 v130 v131 v132 v133 v134 v135 v136 v137 v138 v139 v140 v141 v142 v143 v144 v145 v146 v147 v148 v149 v150 v151 v152 v153 v154 v155 v156 v157 v158 v159 v160 v161 v162 v163 v164 v165 v166 v167 v168 v169 v170 v171 v172 v173 v174 v175 v176 v177 v178 v179 v180 v181 v182 v183 v184 v185 v186 v187 v188 v189 v190 v191 v192 v193 v194 v195 v196 v197 v198 v199 v200 v201 v202 v203 v204 v205 v206 v207 v208 v209 v210 v211 v212 v213 v214 v215 v216 v217 v218 v219 v220 v221 v222 v223 v224 v225 v226 v227 v228 v229 v230 v231 v232 v233 v234 v235 v236 v237 v238 v239 v240 v241 v242 v243 v244 v245 v246 v247 v248 v249 v250 v251 v252 v253 v254 v255 v256 v257 v258 v259 v260 v261 v262 v263 v264 v265 v266 v267 v268 v269 v270 v271 v272 v273 v274 v275 v276 v277 v278 v279 v280 v281 v282 v283 v284 v285 v286 v287 v288 v289 v290 v291 v292 v293 v294 v295 v296 v297 v298 v299 v300 v301 v302 v303 v304 v305 v306 v307 v308 v309 v310 v311 v312 v313 v314 v315 v316 v317 v318 v319 v320 v321 v322 v323 v324 v325 v326 v327 v328 v329 v330 v331 v332 v333 v334 v335 v336 v337 v338 v339 v340 v341 v342 v343 v344 v345 v346 v347 v348 v349 v350 v351 v352 v353 v354 v355 v356 v357 v358 v359 v360 v361 v362 v363 v364 v365 v366 v367 v368 v369 v370 v371 v372 v373 v374 v375 v376 v377 v378 v379 v380 v381 v382 v383 v384 v385 v386 v387 v388 v389 v390 v391 v392 v393 v394 v395 v396 v397 v398 v399 v400 v401 v402 v403 v404 v405 v406 v407 v408 v409 v410 v411 v412 v413 v414 v415 v416 v417 v418 v419 v420 v421 v422 v423 v424 v425 v426 v427 v428 v429 v430 v431 v432 v433 v434 v435 v436 v437 v438 v439 v440 v441 v442 v443 v444 v445 v446 v447 v448 v449 v450 v451 v452 v453 v454 v455 v456 v457 v458 v459 v460 v461 v462 v463 v464 v465 v466 v467 v468 v469 v470 v471 v472 v473 v474 v475 v476 v477 v478 v479 v480 v481 v482 v483 v484 v485 v486 v487 v488 v489 v490 v491 v492 v493 v494 v495 v496 v497 v498 v499 v500 v501 v502 v503 v504 v505 v506 v507 v508 v509 v510 v511 v512 v513 v514 v515 v516 v517 v518 v519 v520 v521 v522 v523 v524 v525 v526 v527 v528 v529 : Value} (w : World) (hA : AB < w.heap.size)
    (a0 : w.cell? ⟨AB, 0, none⟩ = some (.string ns)) (a1 : w.cell? ⟨AB, 1, none⟩ = some (.string nm)) (a2 : w.cell? ⟨AB, 2, none⟩ = some (.string ct)) (a3 : w.cell? ⟨AB, 3, none⟩ = some (.string rs)) (a4 : w.cell? ⟨AB, 4, none⟩ = some (.slice da N dc))
    (g0 : w.cell? ⟨GB, gi * 6, none⟩ = some (.string g.ns)) (g1 : w.cell? ⟨GB, gi * 6 + 1, none⟩ = some (.string g.nm)) (g2 : w.cell? ⟨GB, gi * 6 + 2, none⟩ = some (.string g.ct)) (g3 : w.cell? ⟨GB, gi * 6 + 3, none⟩ = some (.string g.rs)) (g4 : w.cell? ⟨GB, gi * 6 + 4, none⟩ = some g.nv) (g5 : w.cell? ⟨GB, gi * 6 + 5, none⟩ = some g.iv)
    (hok : GOk (· < w.heap.size) w vals g ⟨ns, nm, ct, rs, 0, ws⟩) (hwant : Rd (· < w.heap.size) w (.slice wa wl wc) (ws.map .string)) (hvals : Rd (· < w.heap.size) w (.slice av m cap) ((valL vals m).map (.int .i64)))
    (hK : ∀ (u10 u47 u477 u478 u479 u480 u481 u482 u483 u484 u485 u486 u487 u488 u489 u490 u491 u492 u493 u494 u495 u496 u497 u498 u499 u500 u501 u502 u503 u504 u505 u506 u507 u508 u509 u510 u511 u512 u513 u514 u515 u516 u517 u518 u519 u520 u521 u522 u523 u524 u525 : Value) (w' : World), Kq (· < w.heap.size) w w' → Qx .normal { tmps := #[v0, v1, v2, v3, v4, v5, v6, v7, v8, v9, u10, v11, v12, v13, v14, v15, v16, v17, v18, v19, v20, v21, v22, v23, v24, v25, .slice av m cap, v27, v28, v29, v30, v31, .slice ga G gc, v33, v34, v35, v36, .int .i64 ((gi : Int) + 1), v38, .pointer (some ⟨AB, 0, none⟩), v40, v41, v42, v43, .int .i64 key, .slice wa wl wc, v46, u47, v48, v49, v50, v51, v52, v53, v54, v55, v56, v57, v58, v59, v60, v61, v62, v63, v64, v65, v66, v67, v68, v69, v70, v71, v72, v73, v74, v75, v76, v77, v78, v79, v80, v81, v82, v83, v84, v85, v86, v87, v88, v89, v90, v91, v92, v93, v94, v95, v96, v97, v98, v99, v100, v101, v102, v103, v104, v105, v106, v107, v108, v109, v110, v111, v112, v113, v114, v115, v116, v117, v118, v119, v120, v121, v122, v123, v124, v125, v126, v127, v128, v129, v130, v131, v132, v133, v134, v135, v136, v137, v138, v139, v140, v141, v142, v143, v144, v145, v146, v147, v148, v149, v150, v151, v152, v153, v154, v155, v156, v157, v158, v159, v160, v161, v162, v163, v164, v165, v166, v167, v168, v169, v170, v171, v172, v173, v174, v175, v176, v177, v178, v179, v180, v181, v182, v183, v184, v185, v186, v187, v188, v189, v190, v191, v192, v193, v194, v195, v196, v197, v198, v199, v200, v201, v202, v203, v204, v205, v206, v207, v208, v209, v210, v211, v212, v213, v214, v215, v216, v217, v218, v219, v220, v221, v222, v223, v224, v225, v226, v227, v228, v229, v230, v231, v232, v233, v234, v235, v236, v237, v238, v239, v240, v241, v242, v243, v244, v245, v246, v247, v248, v249, v250, v251, v252, v253, v254, v255, v256, v257, v258, v259, v260, v261, v262, v263, v264, v265, v266, v267, v268, v269, v270, v271, v272, v273, v274, v275, v276, v277, v278, v279, v280, v281, v282, v283, v284, v285, v286, v287, v288, v289, v290, v291, v292, v293, v294, v295, v296, v297, v298, v299, v300, v301, v302, v303, v304, v305, v306, v307, v308, v309, v310, v311, v312, v313, v314, v315, v316, v317, v318, v319, v320, v321, v322, v323, v324, v325, v326, v327, v328, v329, v330, v331, v332, v333, v334, v335, v336, v337, v338, v339, v340, v341, v342, v343, v344, v345, v346, v347, v348, v349, v350, v351, v352, v353, v354, v355, v356, v357, v358, v359, v360, v361, v362, v363, v364, v365, v366, v367, v368, v369, v370, v371, v372, v373, v374, v375, v376, v377, v378, v379, v380, v381, v382, v383, v384, v385, v386, v387, v388, v389, v390, v391, v392, v393, v394, v395, v396, v397, v398, v399, v400, v401, v402, v403, v404, v405, v406, v407, v408, v409, v410, v411, v412, v413, v414, v415, v416, v417, v418, v419, v420, v421, v422, v423, v424, v425, v426, v427, v428, v429, v430, v431, v432, v433, v434, v435, v436, v437, v438, v439, v440, v441, v442, v443, v444, v445, v446, v447, v448, v449, v450, v451, v452, v453, v454, v455, v456, v457, v458, v459, v460, v461, v462, v463, v464, v465, v466, v467, v468, v469, v470, v471, v472, v473, v474, v475, v476, u477, u478, u479, u480, u481, u482, u483, u484, u485, u486, u487, u488, u489, u490, u491, u492, u493, u494, u495, u496, u497, u498, u499, u500, u501, u502, u503, u504, u505, u506, u507, u508, u509, u510, u511, u512, u513, u514, u515, u516, u517, u518, u519, u520, u521, u522, u523, u524, u525, v526, v527, v528, v529], defers := [] } w') :
    (dropS 2 bodyG).wp Try.prog Qx { tmps := #[v0, v1, v2, v3, v4, v5, v6, v7, v8, v9, v10, v11, v12, v13, v14, v15, v16, v17, v18, v19, v20, v21, v22, v23, v24, v25, .slice av m cap, v27, v28, v29, v30, v31, .slice ga G gc, v33, v34, v35, v36, .int .i64 (gi : Nat), v38, .pointer (some ⟨AB, 0, none⟩), v40, v41, v42, v43, .int .i64 key, .slice wa wl wc, v46, v47, v48, v49, v50, v51, v52, v53, v54, v55, v56, v57, v58, v59, v60, v61, v62, v63, v64, v65, v66, v67, v68, v69, v70, v71, v72, v73, v74, v75, v76, v77, v78, v79, v80, v81, v82, v83, v84, v85, v86, v87, v88, v89, v90, v91, v92, v93, v94, v95, v96, v97, v98, v99, v100, v101, v102, v103, v104, v105, v106, v107, v108, v109, v110, v111, v112, v113, v114, v115, v116, v117, v118, v119, v120, v121, v122, v123, v124, v125, v126, v127, v128, v129, v130, v131, v132, v133, v134, v135, v136, v137, v138, v139, v140, v141, v142, v143, v144, v145, v146, v147, v148, v149, v150, v151, v152, v153, v154, v155, v156, v157, v158, v159, v160, v161, v162, v163, v164, v165, v166, v167, v168, v169, v170, v171, v172, v173, v174, v175, v176, v177, v178, v179, v180, v181, v182, v183, v184, v185, v186, v187, v188, v189, v190, v191, v192, v193, v194, v195, v196, v197, v198, v199, v200, v201, v202, v203, v204, v205, v206, v207, v208, v209, v210, v211, v212, v213, v214, v215, v216, v217, v218, v219, v220, v221, v222, v223, v224, v225, v226, v227, v228, v229, v230, v231, v232, v233, v234, v235, v236, v237, v238, v239, v240, v241, v242, v243, v244, v245, v246, v247, v248, v249, v250, v251, v252, v253, v254, v255, v256, v257, v258, v259, v260, v261, v262, v263, v264, v265, v266, v267, v268, v269, v270, v271, v272, v273, v274, v275, v276, v277, v278, v279, v280, v281, v282, v283, v284, v285, v286, v287, v288, v289, v290, v291, v292, v293, v294, v295, v296, v297, v298, v299, v300, v301, v302, v303, v304, v305, v306, v307, v308, v309, v310, v311, v312, v313, v314, v315, v316, v317, v318, v319, v320, v321, v322, v323, v324, v325, v326, v327, v328, v329, v330, v331, v332, v333, v334, v335, v336, v337, v338, v339, v340, v341, v342, v343, v344, v345, v346, v347, v348, v349, v350, v351, v352, v353, v354, v355, v356, v357, v358, v359, v360, v361, v362, v363, v364, v365, v366, v367, v368, v369, v370, v371, v372, v373, v374, v375, v376, v377, v378, v379, v380, v381, v382, v383, v384, v385, v386, v387, v388, v389, v390, v391, v392, v393, v394, v395, v396, v397, v398, v399, v400, v401, v402, v403, v404, v405, v406, v407, v408, v409, v410, v411, v412, v413, v414, v415, v416, v417, v418, v419, v420, v421, v422, v423, v424, v425, v426, v427, v428, v429, v430, v431, v432, v433, v434, v435, v436, v437, v438, v439, v440, v441, v442, v443, v444, v445, v446, v447, v448, v449, v450, v451, v452, v453, v454, v455, v456, v457, v458, v459, v460, v461, v462, v463, v464, v465, v466, v467, v468, v469, v470, v471, v472, v473, v474, v475, v476, v477, v478, v479, v480, v481, v482, v483, v484, v485, v486, v487, v488, v489, v490, v491, v492, v493, v494, v495, v496, v497, v498, v499, v500, v501, v502, v503, v504, v505, v506, v507, v508, v509, v510, v511, v512, v513, v514, v515, v516, v517, v518, v519, v520, v521, v522, v523, v524, v525, v526, v527, v528, v529], defers := [] } w := by
  subst hkey
  obtain ⟨gns, gnm, gct, grs, gnv, giv⟩ := g
  obtain ⟨o1, o2, o3, o4, onv, oiv⟩ := hok
  simp only at o1 o2 o3 o4 onv oiv g0 g1 g2 g3 g4 g5
  subst o1 o2 o3 o4
  have HK := (show Hid _ from hK)
  have HV : Hid (Rd (· < w.heap.size) w (.slice av m cap) ((valL vals m).map (.int .i64))) := hvals
  have HW : Hid (Rd (· < w.heap.size) w (.slice wa wl wc) (ws.map .string)) := hwant
  obtain ⟨ia, ic, hif⟩ := oiv.form
  subst hif
  rw [List.length_map, ← hwl] at g5 oiv
  have HIV : Hid (Rd (· < w.heap.size) w (.slice ia wl ic) (ws.map .string)) := oiv
  obtain ⟨na, nc, hnf⟩ := onv.form
  subst hnf
  rw [show (numa vals 0).length = 0 from rfl] at g4
  have HWL : Hid (wl = ws.length) := hwl
  have hw0' : ¬ ((wl : Int) = 0) := by omega
  have hgi' : ¬ ((G : Int) ≤ (gi : Int)) := by omega
  have hgi2 : (gi : Int) < (G : Int) := by omega
  subst hga
  have hGB := World.block_lt_of_cell? _ _ g0
  have n1 : ¬ (AB = w.heap.size) := by omega
  have n2 : ¬ (w.heap.size = AB) := by omega
  have n3 : ¬ (GB = w.heap.size) := by simp only at hGB; omega
  have n4 : ¬ (w.heap.size = GB) := by omega
  unfold maxLen at hgc
  have k1 : IntKind.i64.wrap ((gi : Int) + 1) = (gi : Int) + 1 := by rw [IntKind.wrap_i64]; omega
  clear hK hvals hwant oiv hwl hGB
  unfold bodyG body23 body7 Try.f7
  simp only [Option.getD_some, dropS, headS, inS]
  go_wp2_with fail
  have t4 := cell_in (heap_alloc_new w (.cells #[.string gns, .string gnm, .string gct, .string grs, .slice na 0 nc, .slice ia wl ic] 54)) (k := 4) rfl
  have t5 := cell_in (heap_alloc_new w (.cells #[.string gns, .string gnm, .string gct, .string grs, .slice na 0 nc, .slice ia wl ic] 54)) (k := 5) rfl
  have HKA : Hid (Kq (· < w.heap.size) w (w.alloc (.cells #[.string gns, .string gnm, .string gct, .string grs, .slice na 0 nc, .slice ia wl ic] 54))) := (Kq.refl _ _).alloc (fun _ h => h) _
  have HSz : Hid (w.heap.size < (w.alloc (.cells #[.string gns, .string gnm, .string gct, .string grs, .slice na 0 nc, .slice ia wl ic] 54)).heap.size) := by show _ < _; simp
  obtain ⟨W, hW⟩ : ∃ W, W = w.alloc (.cells #[.string gns, .string gnm, .string gct, .string grs, .slice na 0 nc, .slice ia wl ic] 54) := ⟨_, rfl⟩
  rw [← hW] at t4 t5 HKA HSz ⊢
  clear hW
  refine (sameHeader_any gns gnm gct grs (.slice na 0 nc) (.slice ia wl ic) (.slice da N dc) rfl rfl rfl _).mono ?_
  rintro e w1 ⟨rfl, hk1⟩
  have s4 := (hk1.cell (p := ⟨w.heap.size, 4, none⟩) HSz.out).trans t4
  have s5 := (hk1.cell (p := ⟨w.heap.size, 5, none⟩) HSz.out).trans t5
  have HK1 : Hid (Kq (· < w.heap.size) w w1) := HKA.out.trans (hk1.mono (fun k hk => Nat.lt_trans hk HSz.out))

  clear hk1 t4 t5 a0 a1 a2 a3 a4 g0 g1 g2 g3 g4 g5
  go_wp2_with fail
  refine (sameStrings_any (· < w.heap.size) (· < w.heap.size) (.slice ia wl ic) (.slice wa wl wc) ws _ (HIV.out.kq HK1.out) (HW.out.kq HK1.out) (by rw [← HWL.out]; exact hwm)).mono ?_
  rintro e w2 ⟨rfl, m2, rfl⟩
  go_wp2_with fail
  exact HK.out _ _ _ _ _ _ _ _ _ _ _ _ _ _ _ _ _ _ _ _ _ _ _ _ _ _ _ _ _ _ _ _ _ _ _ _ _ _ _ _ _ _ _ _ _ _ _ _ _ _ _ _ (HK1.out.drewN m2)

set_option maxRecDepth 100000 in
set_option maxHeartbeats 8000000 in
theorem SG1 (AB GB m cap G gc gi wl wc N dc k : Nat) (av wa da : Option Addr) (ga : Option Addr) (key : Int) (hkey : key = (k : Nat)) (vals : Nat → Int) (g : Gv) (ns nm ct rs : ByteArray) (ws : List ByteArray) (_hm4 : m ≤ 4096) (_hmc : m ≤ cap) (_hcm : cap ≤ maxLen) (hk : k < m) 
    (hgi : gi < G) (hG : G ≤ gc) (hgc : gc ≤ maxLen) (hga : ga = some ⟨GB, 0, none⟩) (hwl : wl = ws.length) (hw0 : 0 < wl) (hwm : wl ≤ 1048576)
    (Qx : Exit → Act → World → Prop) {v0 v1 v2 v3 v4 v5 v6 v7 v8 v9 v10 v11 v12 v13 v14 v15 v16 v17 v18 v19 v20 v21 v22 v23 v24 v25 v27 v28 v29 v30 v31 v33 v34 v35 v36 v38 v40 v41 v42 v43 v46 v47 v48 v49 v50 v51 v52 v53 v54 v55 v56 v57 v58 v59 v60 v61 v62 v63 v64 v65 v66 v67 v68 v69 v70 v71 v72 v73 v74 v75 v76 v77 v78 v79 v80 v81 v82 v83 v84 v85 v86 v87 v88 v89 v90 v91 v92 v93 v94 v95 v96 v97 v98 v99 v100 v101 v102 v103 v104 v105 v106 v107 v108 v109 v110 v111 v112 v113 v114 v115 v116 v117 v118 v119 v120 v121 v122 v123 v124 v125 v126 v127 v128 v129 v130 v131 v132 v133 v134 v135 v136 v137 v138 v139 v140 v141 v142 v143 v144 v145 v146 v147 v148 v149 v150 v151 v152 v153 v154 v155 v156 v157 v158 v159 v160 v161 v162 v163 v164 v165 v166 v167 v168 v169 v170 v171 v172 v173 v174 v175 v176 v177 v178 v179 v180 v181 v182 v183 v184 v185 v186 v187 v188 v189 v190 v191 v192 v193 v194 v195 v196 v197 v198 v199 v200 v201 v202 v203 v204 v205 v206 v207 v208 v209 v210 v211 v212 v213 v214 v215 v216 v217 v218 v219 v220 v221 v222 v223 v224 v225 v226 v227 v228 v229 v230 v231 v232 v233 v234 v235 v236 v237 v238 v239 v240 v241 v242 v243 v244 v245 v246 v247 v248 v249 v250 v251 v252 v253 v254 v255 v256 v257 v258 v259 v260 v261 v262 v263 v264 v265 v266 v267 v268 v269 v270 v271 v272 v273 v274 v275 v276 v277 v278 v279 v280 v281 v282 v283 v284 v285 v286 v287 v288 v289 v290 v291 v292 v293 v294 v295 v296 v297 v298 v299 v300 v301 v302 v303 v304 v305 v306 v307 v308 v309 v310 v311 v312 v313 v314 v315 v316 v317 v318 v319 v320 v321 v322 v323 v324 v325 v326 v327 v328 v329 v330 v331 v332 v333 v334 v335 v336 v337 v338 v339 v340 v341 v342 v343 v344 v345 v346 v347 v348 v349 v350 v351 v352 v353 v354 v355 v356 v357 v358 v359 v360 v361 v362 v363 v364 v365 v366 v367 v368 v369 v370 v371 v372 v373 v374 v375 v376 v377 v378 v379 v380 v381 v382 v383 v384 v385 v386 v387 v388 v389 v390 v391 v392 v393 v394 v395 v396 v397 v398 v399 v400 v401 v402 v403 v404 v405 v406 v407 v408 v409 v410 v411 v412 v413 v414 v415 v416 v417 v418 v419 v420 v421 v422 v423 v424 v425 v426 v427 v428 v429 v430 v431 v432 v433 v434 v435 v436 v437 v438 v439 v440 v441 v442 v443 v444 v445 v446 v447 v448 v449 v450 v451 v452 v453 v454 v455 v456 v457 v458 v459 v460 v461 v462 v463 v464 v465 v466 v467 v468 v469 v470 v471 v472 v473 v474 v475 v476 v477 v478 v479 v480 v481 v482 v483 v484 v485 v486 v487 v488 v489 v490 v491 v492 v493 v494 v495 v496 v497 v498 v499 v500 v501 v502 v503 v504 v505 v506 v507 v508 v509 v510 v511 v512 v513 v514 v515 v516 v517 v518 v519 v520 v521 v522 v523 v524 v525 v526 v527 v528 v529 : Value} (w : World) (hA : AB < w.heap.size)
    (a0 : w.cell? ⟨AB, 0, none⟩ = some (.string ns)) (a1 : w.cell? ⟨AB, 1, none⟩ = some (.string nm)) (a2 : w.cell? ⟨AB, 2, none⟩ = some (.string ct)) (a3 : w.cell? ⟨AB, 3, none⟩ = some (.string rs)) (a4 : w.cell? ⟨AB, 4, none⟩ = some (.slice da N dc))
    (g0 : w.cell? ⟨GB, gi * 6, none⟩ = some (.string g.ns)) (g1 : w.cell? ⟨GB, gi * 6 + 1, none⟩ = some (.string g.nm)) (g2 : w.cell? ⟨GB, gi * 6 + 2, none⟩ = some (.string g.ct)) (g3 : w.cell? ⟨GB, gi * 6 + 3, none⟩ = some (.string g.rs)) (g4 : w.cell? ⟨GB, gi * 6 + 4, none⟩ = some g.nv) (g5 : w.cell? ⟨GB, gi * 6 + 5, none⟩ = some g.iv)
    (hok : GOk (· < w.heap.size) w vals g ⟨ns, nm, ct, rs, (k + 1), ws⟩) (hwant : Rd (· < w.heap.size) w (.slice wa wl wc) (ws.map .string)) (hvals : Rd (· < w.heap.size) w (.slice av m cap) ((valL vals m).map (.int .i64)))
    (hK : ∀ (u10 u47 u477 u478 u479 u480 u481 u482 u483 u484 u485 u486 u487 u488 u489 u490 u491 u492 u493 u494 u495 u496 u497 u498 u499 u500 u501 u502 u503 u504 u505 u506 u507 u508 u509 u510 u511 u512 u513 u514 u515 u516 u517 u518 u519 u520 u521 u522 u523 u524 u525 : Value) (w' : World), Kq (· < w.heap.size) w w' → Qx .normal { tmps := #[v0, v1, v2, v3, v4, v5, v6, v7, v8, v9, u10, v11, v12, v13, v14, v15, v16, v17, v18, v19, v20, v21, v22, v23, v24, v25, .slice av m cap, v27, v28, v29, v30, v31, .slice ga G gc, v33, v34, v35, v36, .int .i64 ((gi : Int) + 1), v38, .pointer (some ⟨AB, 0, none⟩), v40, v41, v42, v43, .int .i64 key, .slice wa wl wc, v46, u47, v48, v49, v50, v51, v52, v53, v54, v55, v56, v57, v58, v59, v60, v61, v62, v63, v64, v65, v66, v67, v68, v69, v70, v71, v72, v73, v74, v75, v76, v77, v78, v79, v80, v81, v82, v83, v84, v85, v86, v87, v88, v89, v90, v91, v92, v93, v94, v95, v96, v97, v98, v99, v100, v101, v102, v103, v104, v105, v106, v107, v108, v109, v110, v111, v112, v113, v114, v115, v116, v117, v118, v119, v120, v121, v122, v123, v124, v125, v126, v127, v128, v129, v130, v131, v132, v133, v134, v135, v136, v137, v138, v139, v140, v141, v142, v143, v144, v145, v146, v147, v148, v149, v150, v151, v152, v153, v154, v155, v156, v157, v158, v159, v160, v161, v162, v163, v164, v165, v166, v167, v168, v169, v170, v171, v172, v173, v174, v175, v176, v177, v178, v179, v180, v181, v182, v183, v184, v185, v186, v187, v188, v189, v190, v191, v192, v193, v194, v195, v196, v197, v198, v199, v200, v201, v202, v203, v204, v205, v206, v207, v208, v209, v210, v211, v212, v213, v214, v215, v216, v217, v218, v219, v220, v221, v222, v223, v224, v225, v226, v227, v228, v229, v230, v231, v232, v233, v234, v235, v236, v237, v238, v239, v240, v241, v242, v243, v244, v245, v246, v247, v248, v249, v250, v251, v252, v253, v254, v255, v256, v257, v258, v259, v260, v261, v262, v263, v264, v265, v266, v267, v268, v269, v270, v271, v272, v273, v274, v275, v276, v277, v278, v279, v280, v281, v282, v283, v284, v285, v286, v287, v288, v289, v290, v291, v292, v293, v294, v295, v296, v297, v298, v299, v300, v301, v302, v303, v304, v305, v306, v307, v308, v309, v310, v311, v312, v313, v314, v315, v316, v317, v318, v319, v320, v321, v322, v323, v324, v325, v326, v327, v328, v329, v330, v331, v332, v333, v334, v335, v336, v337, v338, v339, v340, v341, v342, v343, v344, v345, v346, v347, v348, v349, v350, v351, v352, v353, v354, v355, v356, v357, v358, v359, v360, v361, v362, v363, v364, v365, v366, v367, v368, v369, v370, v371, v372, v373, v374, v375, v376, v377, v378, v379, v380, v381, v382, v383, v384, v385, v386, v387, v388, v389, v390, v391, v392, v393, v394, v395, v396, v397, v398, v399, v400, v401, v402, v403, v404, v405, v406, v407, v408, v409, v410, v411, v412, v413, v414, v415, v416, v417, v418, v419, v420, v421, v422, v423, v424, v425, v426, v427, v428, v429, v430, v431, v432, v433, v434, v435, v436, v437, v438, v439, v440, v441, v442, v443, v444, v445, v446, v447, v448, v449, v450, v451, v452, v453, v454, v455, v456, v457, v458, v459, v460, v461, v462, v463, v464, v465, v466, v467, v468, v469, v470, v471, v472, v473, v474, v475, v476, u477, u478, u479, u480, u481, u482, u483, u484, u485, u486, u487, u488, u489, u490, u491, u492, u493, u494, u495, u496, u497, u498, u499, u500, u501, u502, u503, u504, u505, u506, u507, u508, u509, u510, u511, u512, u513, u514, u515, u516, u517, u518, u519, u520, u521, u522, u523, u524, u525, v526, v527, v528, v529], defers := [] } w') :
    (dropS 2 bodyG).wp Try.prog Qx { tmps := #[v0, v1, v2, v3, v4, v5, v6, v7, v8, v9, v10, v11, v12, v13, v14, v15, v16, v17, v18, v19, v20, v21, v22, v23, v24, v25, .slice av m cap, v27, v28, v29, v30, v31, .slice ga G gc, v33, v34, v35, v36, .int .i64 (gi : Nat), v38, .pointer (some ⟨AB, 0, none⟩), v40, v41, v42, v43, .int .i64 key, .slice wa wl wc, v46, v47, v48, v49, v50, v51, v52, v53, v54, v55, v56, v57, v58, v59, v60, v61, v62, v63, v64, v65, v66, v67, v68, v69, v70, v71, v72, v73, v74, v75, v76, v77, v78, v79, v80, v81, v82, v83, v84, v85, v86, v87, v88, v89, v90, v91, v92, v93, v94, v95, v96, v97, v98, v99, v100, v101, v102, v103, v104, v105, v106, v107, v108, v109, v110, v111, v112, v113, v114, v115, v116, v117, v118, v119, v120, v121, v122, v123, v124, v125, v126, v127, v128, v129, v130, v131, v132, v133, v134, v135, v136, v137, v138, v139, v140, v141, v142, v143, v144, v145, v146, v147, v148, v149, v150, v151, v152, v153, v154, v155, v156, v157, v158, v159, v160, v161, v162, v163, v164, v165, v166, v167, v168, v169, v170, v171, v172, v173, v174, v175, v176, v177, v178, v179, v180, v181, v182, v183, v184, v185, v186, v187, v188, v189, v190, v191, v192, v193, v194, v195, v196, v197, v198, v199, v200, v201, v202, v203, v204, v205, v206, v207, v208, v209, v210, v211, v212, v213, v214, v215, v216, v217, v218, v219, v220, v221, v222, v223, v224, v225, v226, v227, v228, v229, v230, v231, v232, v233, v234, v235, v236, v237, v238, v239, v240, v241, v242, v243, v244, v245, v246, v247, v248, v249, v250, v251, v252, v253, v254, v255, v256, v257, v258, v259, v260, v261, v262, v263, v264, v265, v266, v267, v268, v269, v270, v271, v272, v273, v274, v275, v276, v277, v278, v279, v280, v281, v282, v283, v284, v285, v286, v287, v288, v289, v290, v291, v292, v293, v294, v295, v296, v297, v298, v299, v300, v301, v302, v303, v304, v305, v306, v307, v308, v309, v310, v311, v312, v313, v314, v315, v316, v317, v318, v319, v320, v321, v322, v323, v324, v325, v326, v327, v328, v329, v330, v331, v332, v333, v334, v335, v336, v337, v338, v339, v340, v341, v342, v343, v344, v345, v346, v347, v348, v349, v350, v351, v352, v353, v354, v355, v356, v357, v358, v359, v360, v361, v362, v363, v364, v365, v366, v367, v368, v369, v370, v371, v372, v373, v374, v375, v376, v377, v378, v379, v380, v381, v382, v383, v384, v385, v386, v387, v388, v389, v390, v391, v392, v393, v394, v395, v396, v397, v398, v399, v400, v401, v402, v403, v404, v405, v406, v407, v408, v409, v410, v411, v412, v413, v414, v415, v416, v417, v418, v419, v420, v421, v422, v423, v424, v425, v426, v427, v428, v429, v430, v431, v432, v433, v434, v435, v436, v437, v438, v439, v440, v441, v442, v443, v444, v445, v446, v447, v448, v449, v450, v451, v452, v453, v454, v455, v456, v457, v458, v459, v460, v461, v462, v463, v464, v465, v466, v467, v468, v469, v470, v471, v472, v473, v474, v475, v476, v477, v478, v479, v480, v481, v482, v483, v484, v485, v486, v487, v488, v489, v490, v491, v492, v493, v494, v495, v496, v497, v498, v499, v500, v501, v502, v503, v504, v505, v506, v507, v508, v509, v510, v511, v512, v513, v514, v515, v516, v517, v518, v519, v520, v521, v522, v523, v524, v525, v526, v527, v528, v529], defers := [] } w := by
  subst hkey
  obtain ⟨gns, gnm, gct, grs, gnv, giv⟩ := g
  obtain ⟨o1, o2, o3, o4, onv, oiv⟩ := hok
  simp only at o1 o2 o3 o4 onv oiv g0 g1 g2 g3 g4 g5
  subst o1 o2 o3 o4
  have HK := (show Hid _ from hK)
  have HV : Hid (Rd (· < w.heap.size) w (.slice av m cap) ((valL vals m).map (.int .i64))) := hvals
  have HW : Hid (Rd (· < w.heap.size) w (.slice wa wl wc) (ws.map .string)) := hwant
  obtain ⟨ia, ic, hif⟩ := oiv.form
  subst hif
  rw [List.length_map, ← hwl] at g5 oiv
  have HIV : Hid (Rd (· < w.heap.size) w (.slice ia wl ic) (ws.map .string)) := oiv
  obtain ⟨nb, no, nc, hnf, _, _, hnb, hncs⟩ := onv.some (show 0 < (numa vals (k + 1)).length from Nat.one_pos)
  rw [show (numa vals (k + 1)).length = 1 from rfl] at hnf
  subst hnf
  obtain ⟨na, hna⟩ : ∃ na : Option Addr, na = some ⟨nb, no, none⟩ := ⟨_, rfl⟩
  rw [← hna] at g4
  obtain ⟨vb, vo, vc, hvf, _, _, hvb, hvcs⟩ := HV.out.some (by simpa [valL] using Nat.lt_of_le_of_lt (Nat.zero_le k) hk)
  have HNV : Hid (na = some ⟨nb, no, none⟩ ∧ nb < w.heap.size ∧ w.cell? ⟨nb, no, none⟩ = some (.int .i64 (vals k))) := ⟨hna, hnb, by have := hncs 0 (.int .i64 (vals k)) (by simp [numa]); simpa using this⟩
  have HVV : Hid (av = some ⟨vb, vo, none⟩ ∧ vb < w.heap.size ∧ w.cell? ⟨vb, vo + k, none⟩ = some (.int .i64 (vals k))) := by
    injection hvf with e1
    exact ⟨e1, hvb, hvcs k _ (by simp [valL, hk])⟩
  clear hncs hvcs hna hvf hnb hvb
  have HWL : Hid (wl = ws.length) := hwl
  have hw0' : ¬ ((wl : Int) = 0) := by omega
  have hgi' : ¬ ((G : Int) ≤ (gi : Int)) := by omega
  have hgi2 : (gi : Int) < (G : Int) := by omega
  subst hga
  have hGB := World.block_lt_of_cell? _ _ g0
  have n1 : ¬ (AB = w.heap.size) := by omega
  have n2 : ¬ (w.heap.size = AB) := by omega
  have n3 : ¬ (GB = w.heap.size) := by simp only at hGB; omega
  have n4 : ¬ (w.heap.size = GB) := by omega
  unfold maxLen at hgc
  have k1 : IntKind.i64.wrap ((gi : Int) + 1) = (gi : Int) + 1 := by rw [IntKind.wrap_i64]; omega
  clear hK hvals hwant oiv hwl hGB
  unfold bodyG body23 body7 Try.f7
  simp only [Option.getD_some, dropS, headS, inS]
  go_wp2_with fail
  have t4 := cell_in (heap_alloc_new w (.cells #[.string gns, .string gnm, .string gct, .string grs, .slice na 1 nc, .slice ia wl ic] 54)) (k := 4) rfl
  have t5 := cell_in (heap_alloc_new w (.cells #[.string gns, .string gnm, .string gct, .string grs, .slice na 1 nc, .slice ia wl ic] 54)) (k := 5) rfl
  have HKA : Hid (Kq (· < w.heap.size) w (w.alloc (.cells #[.string gns, .string gnm, .string gct, .string grs, .slice na 1 nc, .slice ia wl ic] 54))) := (Kq.refl _ _).alloc (fun _ h => h) _
  have HSz : Hid (w.heap.size < (w.alloc (.cells #[.string gns, .string gnm, .string gct, .string grs, .slice na 1 nc, .slice ia wl ic] 54)).heap.size) := by show _ < _; simp
  obtain ⟨W, hW⟩ : ∃ W, W = w.alloc (.cells #[.string gns, .string gnm, .string gct, .string grs, .slice na 1 nc, .slice ia wl ic] 54) := ⟨_, rfl⟩
  rw [← hW] at t4 t5 HKA HSz ⊢
  clear hW
  refine (sameHeader_any gns gnm gct grs (.slice na 1 nc) (.slice ia wl ic) (.slice da N dc) rfl rfl rfl _).mono ?_
  rintro e w1 ⟨rfl, hk1⟩
  have s4 := (hk1.cell (p := ⟨w.heap.size, 4, none⟩) HSz.out).trans t4
  have s5 := (hk1.cell (p := ⟨w.heap.size, 5, none⟩) HSz.out).trans t5
  have HK1 : Hid (Kq (· < w.heap.size) w w1) := HKA.out.trans (hk1.mono (fun k hk => Nat.lt_trans hk HSz.out))
  obtain ⟨hna, hnb, hnc⟩ := HNV.out
  obtain ⟨hva, hvb, hvc⟩ := HVV.out
  obtain ⟨zk, hzk⟩ : ∃ z, z = vals k := ⟨_, rfl⟩
  rw [← hzk] at hnc hvc
  clear hzk
  have s6 := (HK1.out.cell (p := ⟨nb, no, none⟩) hnb).trans hnc
  have s7 := (HK1.out.cell (p := ⟨vb, vo + k, none⟩) hvb).trans hvc
  have hkm : (k : Int) < (m : Int) := by omega
  subst hna
  subst hva
  clear hnc hvc hnb hvb
  clear hk1 t4 t5 a0 a1 a2 a3 a4 g0 g1 g2 g3 g4 g5
  go_wp2_with fail
  refine (sameStrings_any (· < w.heap.size) (· < w.heap.size) (.slice ia wl ic) (.slice wa wl wc) ws _ (HIV.out.kq HK1.out) (HW.out.kq HK1.out) (by rw [← HWL.out]; exact hwm)).mono ?_
  rintro e w2 ⟨rfl, m2, hw2⟩
  have r4 : w2.cell? ⟨w.heap.size, 4, none⟩ = some (.slice (some ⟨nb, no, none⟩) 1 nc) := by rw [hw2]; exact s4
  have r6 : w2.cell? ⟨nb, no, none⟩ = some (.int .i64 zk) := by rw [hw2]; exact s6
  have r7 : w2.cell? ⟨vb, vo + k, none⟩ = some (.int .i64 zk) := by rw [hw2]; exact s7
  have HK2 : Hid (Kq (· < w.heap.size) w w2) := by show Kq _ _ _; rw [hw2]; exact HK1.out.drewN m2
  clear hw2 s4 s5 s6 s7
  go_wp2_with fail
  go_quiet (fail)
  go_wp2_with fail
  exact HK.out _ _ _ _ _ _ _ _ _ _ _ _ _ _ _ _ _ _ _ _ _ _ _ _ _ _ _ _ _ _ _ _ _ _ _ _ _ _ _ _ _ _ _ _ _ _ _ _ _ _ _ _ (HK2.out.drewN nq)
end Go.Proofs.Qxb6609296a
