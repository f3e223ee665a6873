import Derived.Test.Qxb6609296aL5
namespace Go.Proofs.Qxb6609296a
open Go.RowKit Srt

def Ints (W : World) (R : Nat → Prop) (ai : Option Addr) (n : Nat) (l : List Int) : Prop :=
  0 < n → ∃ b off, ai = some ⟨b, off, none⟩ ∧ R b ∧ ∀ i, i < n → W.cell? ⟨b, off + i, none⟩ = some (.int .i64 (l.getD i 0))
def Bools (W : World) (R : Nat → Prop) (ai : Option Addr) (n : Nat) (l : List Bool) : Prop :=
  0 < n → ∃ b off, ai = some ⟨b, off, none⟩ ∧ R b ∧ ∀ i, i < n → W.cell? ⟨b, off + i, none⟩ = some (.bool (l.getD i false))

def I64 (l : List Int) : List Value := l.map (Value.int .i64)
/-- The distinct nodes of the first j devices that are given one. -/
structure Dist (nodes : List Int) (given : List Bool) (j : Nat) (l : List Int) : Prop where
  nodup : l.Nodup
  mem : ∀ z, z ∈ l ↔ ∃ t, t < j ∧ given.getD t false = true ∧ nodes.getD t 0 = z
  len : l.length ≤ j
theorem Dist.zero (nodes : List Int) (given : List Bool) : Dist nodes given 0 [] := ⟨List.nodup_nil, fun z => ⟨fun h => by simp at h, fun ⟨t, h, _⟩ => by omega⟩, Nat.le_refl _⟩
theorem Dist.skip {nodes : List Int} {given : List Bool} {j : Nat} {l : List Int} (h : Dist nodes given j l) (hn : given.getD j false = false) : Dist nodes given (j + 1) l := by
  refine ⟨h.nodup, fun z => (h.mem z).trans ⟨fun ⟨t, h1, h2⟩ => ⟨t, by omega, h2⟩, fun ⟨t, h1, h2, h3⟩ => ?_⟩, Nat.le_succ_of_le h.len⟩
  by_cases e : t = j
  · rw [e, hn] at h2; cases h2
  · exact ⟨t, by omega, h2, h3⟩
theorem Dist.old {nodes : List Int} {given : List Bool} {j : Nat} {l : List Int} (h : Dist nodes given j l) (hm : nodes.getD j 0 ∈ l) : Dist nodes given (j + 1) l := by
  refine ⟨h.nodup, fun z => ⟨fun hz => ?_, fun ⟨t, h1, h2, h3⟩ => ?_⟩, Nat.le_succ_of_le h.len⟩
  · obtain ⟨t, h1, h2⟩ := (h.mem z).1 hz; exact ⟨t, by omega, h2⟩
  · by_cases e : t = j
    · rw [← h3, e]; exact hm
    · exact (h.mem z).2 ⟨t, by omega, h2, h3⟩
theorem Dist.new {nodes : List Int} {given : List Bool} {j : Nat} {l : List Int} (h : Dist nodes given j l) (hg : given.getD j false = true) (hm : nodes.getD j 0 ∉ l) : Dist nodes given (j + 1) (l ++ [nodes.getD j 0]) := by
  refine ⟨?_, fun z => ⟨fun hz => ?_, fun ⟨t, h1, h2, h3⟩ => ?_⟩, by have := h.len; simp; omega⟩
  · rw [List.nodup_append]
    refine ⟨h.nodup, by simp, fun a ha b hb => ?_⟩
    simp only [List.mem_singleton] at hb
    rw [hb]; exact fun e => hm (e ▸ ha)
  · rw [List.mem_append, List.mem_singleton] at hz
    rcases hz with hz | hz
    · obtain ⟨t, h1, h2⟩ := (h.mem z).1 hz; exact ⟨t, by omega, h2⟩
    · exact ⟨j, by omega, hg, hz.symm⟩
  · rw [List.mem_append, List.mem_singleton]
    by_cases e : t = j
    · right; rw [← h3, e]
    · exact .inl ((h.mem z).2 ⟨t, by omega, h2, h3⟩)

set_option maxRecDepth 100000 in
set_option maxHeartbeats 8000000 in
theorem S17 (Q : Nat → Prop) (W : World) (n cn cg : Nat) (an ag : Option Addr) (nodes : List Int) (given : List Bool) (vv : Value) (hn : n ≤ 4096) (hcn : n ≤ cn) (hcnm : cn ≤ maxLen) (hcg : n ≤ cg) (_hcgm : cg ≤ maxLen) (hQ : ∀ k, Q k → k < W.heap.size) (Qx : Exit → Act → World → Prop) (v0 v1 v2 v5 v6 v7 v8 v9 v10 v11 v13 v14 v15 v16 v17 v18 v19 v20 v21 v22 v23 v24 v25 v27 v28 v29 v30 v31 v32 v33 v34 v35 v36 v37 v38 v39 v40 v41 v42 v43 v44 v45 v46 v47 v48 v49 v50 v51 v52 v53 v54 v55 v56 v57 v58 v59 v60 v61 v62 v63 v64 v65 v66 v67 v68 v69 v70 v71 v72 v73 v74 v75 v76 v77 v78 v79 v80 v81 v82 v83 v84 v85 v86 v87 v88 v89 v90 v91 v92 v93 v94 v95 v96 v97 v98 v99 v100 v101 v102 v103 v104 v105 v106 v107 v108 v109 v110 v111 v112 v113 v114 v115 v116 v117 v118 v119 v120 v121 v122 v123 v124 v125 v126 v127 v128 v129 v130 v131 v132 v133 v134 v135 v136 v137 v138 v139 v140 v141 v142 v143 v144 v145 v146 v147 v148 v149 v150 v151 v152 v153 v154 v155 v156 v157 v158 v159 v160 v161 v162 v163 v164 v165 v166 v167 v168 v169 v170 v171 v172 v173 v174 v175 v176 v177 v178 v179 v180 v181 v182 v183 v184 v185 v186 v187 v188 v189 v190 v191 v192 v193 v194 v195 v196 v197 v198 v199 v200 v201 v202 v203 v204 v205 v206 v207 v208 v209 v210 v211 v212 v213 v214 v215 v216 v217 v218 v219 v220 v221 v222 v223 v224 v225 v226 v227 v228 v229 v230 v231 v232 v233 v234 v235 v236 v237 v238 v239 v240 v241 v242 v243 v244 v245 v246 v247 v248 v249 v250 v251 v252 v253 v254 v255 v256 v257 v258 v259 v260 v261 v262 v263 v264 v265 v266 v267 v268 v269 v270 v271 v272 v273 v274 v275 v276 v277 v278 v279 v280 v281 v282 v283 v284 v285 v286 v287 v288 v289 v290 v291 v292 v293 v294 v295 v296 v297 v298 v299 v300 v301 v302 v303 v304 v305 v306 v307 v308 v309 v310 v311 v312 v313 v314 v315 v316 v317 v318 v319 v320 v321 v322 v323 v324 v325 v326 v327 v328 v329 v330 v331 v332 v333 v334 v335 v336 v337 v338 v339 v340 v341 v342 v343 v344 v345 v346 v347 v348 v349 v350 v351 v352 v353 v354 v355 v356 v357 v358 v359 v360 v361 v362 v363 v364 v365 v366 v367 v368 v369 v370 v371 v372 v373 v374 v375 v376 v377 v378 v379 v380 v381 v382 v383 v384 v385 v386 v387 v388 v389 v390 v391 v392 v393 v394 v395 v396 v397 v398 v399 v400 v401 v402 v403 v404 v405 v406 v407 v408 v409 v410 v411 v412 v413 v414 v415 v416 v417 v418 v419 v420 v421 v422 v423 v424 v425 v426 v427 v428 v429 v430 v431 v432 v433 v434 v435 v436 v437 v438 v439 v440 v441 v442 v443 v444 v445 v446 v447 v448 v449 v450 v451 v452 v453 v454 v455 v456 v457 v458 v459 v460 v461 v462 v463 v464 v465 v466 v467 v468 v469 v470 v471 v472 v473 v474 v475 v476 v477 v478 v479 v480 v481 v482 v483 v484 v485 v486 v487 v488 v489 v490 v491 v492 v493 v494 v495 v496 v497 v498 v499 v500 v501 v502 v503 v504 v505 v506 v507 v508 v509 v510 v511 v512 v513 v514 v515 v516 v517 v518 v519 v520 v521 v522 v523 v524 v525 v526 v527 v528 v529 : Value) (w : World)
    (hnodes : Ints W Q an n nodes) (hgiven : Bools W Q ag n given) (hkq : Kq Q W w) (hown : Own Q 2 w vv [])
    (hK : ∀ (u27 u242 u243 u244 u245 u246 u247 u248 u249 u250 u251 u252 u253 u254 u255 u256 u257 u258 u259 u260 u261 u262 u263 u264 u265 u266 vv' : Value) (w' : World) (l : List Int), Kq Q W w' → Own Q 2 w' vv' (I64 l) → Dist nodes given n l → Qx .normal { tmps := #[v0, v1, v2, .slice an n cn, .slice ag n cg, v5, v6, v7, v8, v9, v10, v11, .int .i64 (n : Nat), v13, v14, v15, v16, v17, v18, v19, v20, v21, v22, v23, v24, v25, vv', u27, v28, v29, v30, v31, v32, v33, v34, v35, v36, v37, v38, v39, v40, v41, v42, v43, v44, v45, v46, v47, v48, v49, v50, v51, v52, v53, v54, v55, v56, v57, v58, v59, v60, v61, v62, v63, v64, v65, v66, v67, v68, v69, v70, v71, v72, v73, v74, v75, v76, v77, v78, v79, v80, v81, v82, v83, v84, v85, v86, v87, v88, v89, v90, v91, v92, v93, v94, v95, v96, v97, v98, v99, v100, v101, v102, v103, v104, v105, v106, v107, v108, v109, v110, v111, v112, v113, v114, v115, v116, v117, v118, v119, v120, v121, v122, v123, v124, v125, v126, v127, v128, v129, v130, v131, v132, v133, v134, v135, v136, v137, v138, v139, v140, v141, v142, v143, v144, v145, v146, v147, v148, v149, v150, v151, v152, v153, v154, v155, v156, v157, v158, v159, v160, v161, v162, v163, v164, v165, v166, v167, v168, v169, v170, v171, v172, v173, v174, v175, v176, v177, v178, v179, v180, v181, v182, v183, v184, v185, v186, v187, v188, v189, v190, v191, v192, v193, v194, v195, v196, v197, v198, v199, v200, v201, v202, v203, v204, v205, v206, v207, v208, v209, v210, v211, v212, v213, v214, v215, v216, v217, v218, v219, v220, v221, v222, v223, v224, v225, v226, v227, v228, v229, v230, v231, v232, v233, v234, v235, v236, v237, v238, v239, v240, v241, u242, u243, u244, u245, u246, u247, u248, u249, u250, u251, u252, u253, u254, u255, u256, u257, u258, u259, u260, u261, u262, u263, u264, u265, u266, v267, v268, v269, v270, v271, v272, v273, v274, v275, v276, v277, v278, v279, v280, v281, v282, v283, v284, v285, v286, v287, v288, v289, v290, v291, v292, v293, v294, v295, v296, v297, v298, v299, v300, v301, v302, v303, v304, v305, v306, v307, v308, v309, v310, v311, v312, v313, v314, v315, v316, v317, v318, v319, v320, v321, v322, v323, v324, v325, v326, v327, v328, v329, v330, v331, v332, v333, v334, v335, v336, v337, v338, v339, v340, v341, v342, v343, v344, v345, v346, v347, v348, v349, v350, v351, v352, v353, v354, v355, v356, v357, v358, v359, v360, v361, v362, v363, v364, v365, v366, v367, v368, v369, v370, v371, v372, v373, v374, v375, v376, v377, v378, v379, v380, v381, v382, v383, v384, v385, v386, v387, v388, v389, v390, v391, v392, v393, v394, v395, v396, v397, v398, v399, v400, v401, v402, v403, v404, v405, v406, v407, v408, v409, v410, v411, v412, v413, v414, v415, v416, v417, v418, v419, v420, v421, v422, v423, v424, v425, v426, v427, v428, v429, v430, v431, v432, v433, v434, v435, v436, v437, v438, v439, v440, v441, v442, v443, v444, v445, v446, v447, v448, v449, v450, v451, v452, v453, v454, v455, v456, v457, v458, v459, v460, v461, v462, v463, v464, v465, v466, v467, v468, v469, v470, v471, v472, v473, v474, v475, v476, v477, v478, v479, v480, v481, v482, v483, v484, v485, v486, v487, v488, v489, v490, v491, v492, v493, v494, v495, v496, v497, v498, v499, v500, v501, v502, v503, v504, v505, v506, v507, v508, v509, v510, v511, v512, v513, v514, v515, v516, v517, v518, v519, v520, v521, v522, v523, v524, v525, v526, v527, v528, v529], defers := [] } w') :
    (headS (dropS 17 body7)).wp Try.prog Qx { tmps := #[v0, v1, v2, .slice an n cn, .slice ag n cg, v5, v6, v7, v8, v9, v10, v11, .int .i64 (n : Nat), v13, v14, v15, v16, v17, v18, v19, v20, v21, v22, v23, v24, v25, vv, v27, v28, v29, v30, v31, v32, v33, v34, v35, v36, v37, v38, v39, v40, v41, v42, v43, v44, v45, v46, v47, v48, v49, v50, v51, v52, v53, v54, v55, v56, v57, v58, v59, v60, v61, v62, v63, v64, v65, v66, v67, v68, v69, v70, v71, v72, v73, v74, v75, v76, v77, v78, v79, v80, v81, v82, v83, v84, v85, v86, v87, v88, v89, v90, v91, v92, v93, v94, v95, v96, v97, v98, v99, v100, v101, v102, v103, v104, v105, v106, v107, v108, v109, v110, v111, v112, v113, v114, v115, v116, v117, v118, v119, v120, v121, v122, v123, v124, v125, v126, v127, v128, v129, v130, v131, v132, v133, v134, v135, v136, v137, v138, v139, v140, v141, v142, v143, v144, v145, v146, v147, v148, v149, v150, v151, v152, v153, v154, v155, v156, v157, v158, v159, v160, v161, v162, v163, v164, v165, v166, v167, v168, v169, v170, v171, v172, v173, v174, v175, v176, v177, v178, v179, v180, v181, v182, v183, v184, v185, v186, v187, v188, v189, v190, v191, v192, v193, v194, v195, v196, v197, v198, v199, v200, v201, v202, v203, v204, v205, v206, v207, v208, v209, v210, v211, v212, v213, v214, v215, v216, v217, v218, v219, v220, v221, v222, v223, v224, v225, v226, v227, v228, v229, v230, v231, v232, v233, v234, v235, v236, v237, v238, v239, v240, v241, v242, v243, v244, v245, v246, v247, v248, v249, v250, v251, v252, v253, v254, v255, v256, v257, v258, v259, v260, v261, v262, v263, v264, v265, v266, v267, v268, v269, v270, v271, v272, v273, v274, v275, v276, v277, v278, v279, v280, v281, v282, v283, v284, v285, v286, v287, v288, v289, v290, v291, v292, v293, v294, v295, v296, v297, v298, v299, v300, v301, v302, v303, v304, v305, v306, v307, v308, v309, v310, v311, v312, v313, v314, v315, v316, v317, v318, v319, v320, v321, v322, v323, v324, v325, v326, v327, v328, v329, v330, v331, v332, v333, v334, v335, v336, v337, v338, v339, v340, v341, v342, v343, v344, v345, v346, v347, v348, v349, v350, v351, v352, v353, v354, v355, v356, v357, v358, v359, v360, v361, v362, v363, v364, v365, v366, v367, v368, v369, v370, v371, v372, v373, v374, v375, v376, v377, v378, v379, v380, v381, v382, v383, v384, v385, v386, v387, v388, v389, v390, v391, v392, v393, v394, v395, v396, v397, v398, v399, v400, v401, v402, v403, v404, v405, v406, v407, v408, v409, v410, v411, v412, v413, v414, v415, v416, v417, v418, v419, v420, v421, v422, v423, v424, v425, v426, v427, v428, v429, v430, v431, v432, v433, v434, v435, v436, v437, v438, v439, v440, v441, v442, v443, v444, v445, v446, v447, v448, v449, v450, v451, v452, v453, v454, v455, v456, v457, v458, v459, v460, v461, v462, v463, v464, v465, v466, v467, v468, v469, v470, v471, v472, v473, v474, v475, v476, v477, v478, v479, v480, v481, v482, v483, v484, v485, v486, v487, v488, v489, v490, v491, v492, v493, v494, v495, v496, v497, v498, v499, v500, v501, v502, v503, v504, v505, v506, v507, v508, v509, v510, v511, v512, v513, v514, v515, v516, v517, v518, v519, v520, v521, v522, v523, v524, v525, v526, v527, v528, v529], defers := [] } w := by
  have HI : Hid (Ints W Q an n nodes ∧ Bools W Q ag n given) := ⟨hnodes, hgiven⟩
  have HK := (show Hid _ from hK)
  have HQ : Hid (∀ k, Q k → k < W.heap.size) := hQ
  have H0 : Hid (Kq Q W w ∧ Own Q 2 w vv []) := ⟨hkq, hown⟩
  obtain ⟨i2, hi2, hz2, hs2, hb2⟩ := info_parts Try.info2
  unfold maxLen at hcnm
  clear hK hnodes hgiven hQ hkq hown
  unfold body7 Try.f7
  simp only [Option.getD_some, dropS, headS]
  go_wp2_with fail
  go_loopw [26, 27] (fun r p x => ∃ (j : Nat) (l : List Int), j ≤ n ∧ p = .int .i64 j ∧ Kq Q W x ∧ Own Q 2 x r (I64 l) ∧ Dist nodes given j l) (fun _ p _ => n - (intOf p).toNat)
  case atStart => exact ⟨0, [], Nat.zero_le _, rfl, H0.out.1, H0.out.2, Dist.zero _ _⟩
  case round =>
    obtain ⟨j, l, hj, rfl, hkq, hown, hdist⟩ := hrel
    have HY : Hid (Kq Q W wr ∧ Own Q 2 wr u26 (I64 l) ∧ Dist nodes given j l) := ⟨hkq, hown, hdist⟩
    have hll := hdist.len
    clear hkq hown hdist H0
    by_cases hlt : j < n
    · have hlt' : (j : Int) < (n : Int) := by omega
      obtain ⟨nb, no, rfl, hnQ, hncs⟩ := HI.out.1 (by omega)
      obtain ⟨gb, go', rfl, hgQ, hgcs⟩ := HI.out.2 (by omega)
      have c1 := (HY.out.1.cell (p := ⟨nb, no + j, none⟩) hnQ).trans (hncs j hlt)
      have c2 := (HY.out.1.cell (p := ⟨gb, go' + j, none⟩) hgQ).trans (hgcs j hlt)
      obtain ⟨z, hz⟩ : ∃ z, z = nodes.getD j 0 := ⟨_, rfl⟩
      rw [← hz] at c1
      have HZ : Hid (z = nodes.getD j 0) := hz
      clear hncs hgcs hz hnQ hgQ
      cases hg : given.getD j false with
      | false =>
        rw [hg] at c2
        have HG : Hid (given.getD j false = false) := hg
        clear hg
        go_wp2_with fail
        go_roundw
        case rel => exact ⟨j + 1, l, by omega, by go_num, HY.out.1, HY.out.2.1, HY.out.2.2.skip HG.out⟩
        case measure => simp [intOf]; omega
      | true =>
        rw [hg] at c2
        have HG : Hid (given.getD j false = true) := hg
        have HRd : Hid (Rd (fun _ => True) wr u26 (l.map (.int .i64))) := HY.out.2.1.rd (fun _ _ _ => trivial)
        clear hg
        go_wp2_with fail
        refine (indexOf_any (fun _ => True) u26 l z _ HRd.out (by omega)).mono ?_
        rintro e w1 ⟨hw1, hr⟩
        subst w1
        rcases hr with ⟨rfl, hm⟩ | ⟨i, rfl, hi, hm⟩
        · have HM : Hid (nodes.getD j 0 ∉ l) := by rw [← HZ.out]; exact hm
          clear hm
          go_wp2_with (at_builtin; refine wpList_append_q _ rfl (.tmp 260) (.tmp 265) 32 rfl 2 i2 (.int .i64 0) 8 Try.underlying32 hi2 hz2 hs2 hb2 rfl Q ?hq u26 _ rfl (HY.out.2.1.alloc _) (fun _ => True) _ [_] rfl (rd_one (heap_alloc_new _ _)) ?h1 ?h63 ?hby ?_)
          case hq => intro x hx; have h1 := HY.out.1.size; have := HQ.out x hx; simp; omega
          case h1 => intro u hu; simp at hu; subst hu; rfl
          case h63 => simp only [I64, List.length_map, List.length_cons, List.length_nil, maxLen]; omega
          case hby => simp only [I64, List.length_map, List.length_cons, List.length_nil]; omega
          intro v' w3 ho hk3 _
          have HN : Hid (Kq Q W w3 ∧ Own Q 2 w3 v' (I64 (l ++ [nodes.getD j 0]))) := by
            refine ⟨HY.out.1.trans (Kq.trans ((Kq.refl _ _).alloc (fun x hx => by have h1 := HY.out.1.size; have := HQ.out x hx; omega) _) hk3), ?_⟩
            have e : I64 (l ++ [nodes.getD j 0]) = I64 l ++ [Value.int .i64 z] := by rw [HZ.out]; simp [I64]
            rw [e]; exact ho
          clear ho hk3
          go_wp2_with fail
          go_roundw
          case rel => exact ⟨j + 1, _, by omega, by go_num, HN.out.1, HN.out.2, HY.out.2.2.new HG.out HM.out⟩
          case measure => simp [intOf]; omega
        · have HM : Hid (nodes.getD j 0 ∈ l) := by
            show _ ∈ _
            rw [← HZ.out, ← hm, List.getD_eq_getElem?_getD, List.getElem?_eq_getElem hi]
            exact List.getElem_mem hi
          have hge : decide ((i : Int) < 0) = false := by simp
          clear hm
          go_wp2_with fail
          go_roundw
          case rel => exact ⟨j + 1, l, by omega, by go_num, HY.out.1, HY.out.2.1, HY.out.2.2.old HM.out⟩
          case measure => simp [intOf]; omega
    · obtain rfl : j = n := by omega
      clear hlt
      go_wp2_with fail
      exact HK.out _ _ _ _ _ _ _ _ _ _ _ _ _ _ _ _ _ _ _ _ _ _ _ _ _ _ u26 wr l HY.out.1 HY.out.2.1 HY.out.2.2
end Go.Proofs.Qxb6609296a
