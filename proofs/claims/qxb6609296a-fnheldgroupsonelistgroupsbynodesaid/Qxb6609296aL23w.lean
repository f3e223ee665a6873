import Derived.Test.Qxb6609296aChk
namespace Go.Proofs.Qxb6609296a
open Go.RowKit Srt

set_option maxRecDepth 100000 in
set_option maxHeartbeats 8000000 in
/-- The devices of one key. -/
theorem SW (AB KB N q dc : Nat) (da : Option Addr) (devs : List ByteArray) (dk : ByteArray → Nat) (hN : N = devs.length) (hN2 : N ≤ 65536) (hq : q ≤ 4096)
    (Qx : Exit → Act → World → Prop) {v0 v1 v2 v3 v4 v5 v6 v7 v8 v9 v10 v11 v12 v13 v14 v15 v16 v17 v18 v19 v20 v21 v22 v23 v24 v25 v26 v27 v28 v29 v30 v31 v32 v33 v34 v35 v36 v37 v38 v40 v42 v43 v46 v47 v48 v49 v50 v51 v52 v53 v54 v55 v56 v57 v58 v59 v60 v61 v62 v63 v64 v65 v66 v67 v68 v69 v70 v71 v72 v73 v74 v75 v76 v77 v78 v79 v80 v81 v82 v83 v84 v85 v86 v87 v88 v89 v90 v91 v92 v93 v94 v95 v96 v97 v98 v99 v100 v101 v102 v103 v104 v105 v106 v107 v108 v109 v110 v111 v112 v113 v114 v115 v116 v117 v118 v119 v120 v121 v122 v123 v124 v125 v126 v127 v128 v129 v130 v131 v132 v133 v134 v135 v136 v137 v138 v139 v140 v141 v142 v143 v144 v145 v146 v147 v148 v149 v150 v151 v152 v153 v154 v155 v156 v157 v158 v159 v160 v161 v162 v163 v164 v165 v166 v167 v168 v169 v170 v171 v172 v173 v174 v175 v176 v177 v178 v179 v180 v181 v182 v183 v184 v185 v186 v187 v188 v189 v190 v191 v192 v193 v194 v195 v196 v197 v198 v199 v200 v201 v202 v203 v204 v205 v206 v207 v208 v209 v210 v211 v212 v213 v214 v215 v216 v217 v218 v219 v220 v221 v222 v223 v224 v225 v226 v227 v228 v229 v230 v231 v232 v233 v234 v235 v236 v237 v238 v239 v240 v241 v242 v243 v244 v245 v246 v247 v248 v249 v250 v251 v252 v253 v254 v255 v256 v257 v258 v259 v260 v261 v262 v263 v264 v265 v266 v267 v268 v269 v270 v271 v272 v273 v274 v275 v276 v277 v278 v279 v280 v281 v282 v283 v284 v285 v286 v287 v288 v289 v290 v291 v292 v293 v294 v295 v296 v297 v298 v299 v300 v301 v302 v303 v304 v305 v306 v307 v308 v309 v310 v311 v312 v313 v314 v315 v316 v317 v318 v319 v320 v321 v322 v323 v324 v325 v326 v327 v328 v329 v330 v331 v332 v333 v334 v335 v336 v337 v338 v339 v340 v341 v342 v343 v344 v345 v346 v347 v348 v349 v350 v351 v352 v353 v354 v355 v356 v357 v358 v359 v360 v361 v362 v363 v364 v365 v366 v367 v368 v369 v370 v371 v372 v373 v374 v375 v376 v377 v378 v379 v380 v381 v382 v383 v384 v385 v386 v387 v388 v389 v390 v391 v392 v393 v394 v395 v396 v397 v398 v399 v400 v401 v402 v403 v404 v405 v406 v407 v408 v409 v410 v411 v412 v413 v414 v415 v416 v417 v418 v419 v420 v421 v422 v423 v424 v425 v426 v427 v428 v429 v430 v431 v432 v433 v434 v435 v436 v437 v438 v439 v440 v441 v442 v443 v444 v445 v446 v447 v448 v449 v450 v451 v452 v453 v454 v455 v456 v457 v458 v459 v460 v461 v462 v463 v464 v465 v466 v467 v468 v469 v470 v471 v472 v473 v474 v475 v476 v477 v478 v479 v480 v481 v482 v483 v484 v485 v486 v487 v488 v489 v490 v491 v492 v493 v494 v495 v496 v497 v498 v499 v500 v501 v502 v503 v504 v505 v506 v507 v508 v509 v510 v511 v512 v513 v514 v515 v516 v517 v518 v519 v520 v521 v522 v523 v524 v525 v526 v527 v528 v529 : Value} (w : World) (hdev : Rd (· < w.heap.size) w (.slice da N dc) (devs.map .string)) (hA : AB < w.heap.size) (hKB : KB < w.heap.size) (hca : w.cell? ⟨AB, 4, none⟩ = some (.slice da N dc))
    (hkeys : ∀ d, d < N → w.cell? ⟨KB, d, none⟩ = some (.int .i64 ((dk (devs.getD d ByteArray.empty) : Int) - 1)))
    (hK : ∀ (u46 u456 u457 u458 u459 u460 u461 u462 u463 u464 u465 u466 u467 u468 u469 u470 u471 u472 u473 u474 u475 u476 r : Value) (w' : World), Kq (· < w.heap.size) w w' → Own (· < w.heap.size) 9 w' r ((those dk devs q).map .string) → Qx .normal { tmps := #[v0, v1, v2, v3, v4, v5, v6, v7, v8, v9, v10, v11, v12, v13, v14, v15, v16, v17, v18, v19, v20, v21, v22, v23, v24, v25, v26, v27, v28, v29, v30, v31, v32, v33, v34, v35, v36, v37, v38, .pointer (some ⟨AB, 0, none⟩), v40, .slice (some ⟨KB, 0, none⟩) N N, v42, v43, .int .i64 ((q : Int) - 1), r, u46, v47, v48, v49, v50, v51, v52, v53, v54, v55, v56, v57, v58, v59, v60, v61, v62, v63, v64, v65, v66, v67, v68, v69, v70, v71, v72, v73, v74, v75, v76, v77, v78, v79, v80, v81, v82, v83, v84, v85, v86, v87, v88, v89, v90, v91, v92, v93, v94, v95, v96, v97, v98, v99, v100, v101, v102, v103, v104, v105, v106, v107, v108, v109, v110, v111, v112, v113, v114, v115, v116, v117, v118, v119, v120, v121, v122, v123, v124, v125, v126, v127, v128, v129, v130, v131, v132, v133, v134, v135, v136, v137, v138, v139, v140, v141, v142, v143, v144, v145, v146, v147, v148, v149, v150, v151, v152, v153, v154, v155, v156, v157, v158, v159, v160, v161, v162, v163, v164, v165, v166, v167, v168, v169, v170, v171, v172, v173, v174, v175, v176, v177, v178, v179, v180, v181, v182, v183, v184, v185, v186, v187, v188, v189, v190, v191, v192, v193, v194, v195, v196, v197, v198, v199, v200, v201, v202, v203, v204, v205, v206, v207, v208, v209, v210, v211, v212, v213, v214, v215, v216, v217, v218, v219, v220, v221, v222, v223, v224, v225, v226, v227, v228, v229, v230, v231, v232, v233, v234, v235, v236, v237, v238, v239, v240, v241, v242, v243, v244, v245, v246, v247, v248, v249, v250, v251, v252, v253, v254, v255, v256, v257, v258, v259, v260, v261, v262, v263, v264, v265, v266, v267, v268, v269, v270, v271, v272, v273, v274, v275, v276, v277, v278, v279, v280, v281, v282, v283, v284, v285, v286, v287, v288, v289, v290, v291, v292, v293, v294, v295, v296, v297, v298, v299, v300, v301, v302, v303, v304, v305, v306, v307, v308, v309, v310, v311, v312, v313, v314, v315, v316, v317, v318, v319, v320, v321, v322, v323, v324, v325, v326, v327, v328, v329, v330, v331, v332, v333, v334, v335, v336, v337, v338, v339, v340, v341, v342, v343, v344, v345, v346, v347, v348, v349, v350, v351, v352, v353, v354, v355, v356, v357, v358, v359, v360, v361, v362, v363, v364, v365, v366, v367, v368, v369, v370, v371, v372, v373, v374, v375, v376, v377, v378, v379, v380, v381, v382, v383, v384, v385, v386, v387, v388, v389, v390, v391, v392, v393, v394, v395, v396, v397, v398, v399, v400, v401, v402, v403, v404, v405, v406, v407, v408, v409, v410, v411, v412, v413, v414, v415, v416, v417, v418, v419, v420, v421, v422, v423, v424, v425, v426, v427, v428, v429, v430, v431, v432, v433, v434, v435, v436, v437, v438, v439, v440, v441, v442, v443, v444, v445, v446, v447, v448, v449, v450, v451, v452, v453, v454, v455, u456, u457, u458, u459, u460, u461, u462, u463, u464, u465, u466, u467, u468, u469, u470, u471, u472, u473, u474, u475, u476, v477, v478, v479, v480, v481, v482, v483, v484, v485, v486, v487, v488, v489, v490, v491, v492, v493, v494, v495, v496, v497, v498, v499, v500, v501, v502, v503, v504, v505, v506, v507, v508, v509, v510, v511, v512, v513, v514, v515, v516, v517, v518, v519, v520, v521, v522, v523, v524, v525, v526, v527, v528, v529], defers := [] } w') :
    (headS (dropS 1 bodyG)).wp Try.prog Qx { tmps := #[v0, v1, v2, v3, v4, v5, v6, v7, v8, v9, v10, v11, v12, v13, v14, v15, v16, v17, v18, v19, v20, v21, v22, v23, v24, v25, v26, v27, v28, v29, v30, v31, v32, v33, v34, v35, v36, v37, v38, .pointer (some ⟨AB, 0, none⟩), v40, .slice (some ⟨KB, 0, none⟩) N N, v42, v43, .int .i64 ((q : Int) - 1), .slice none 0 0, v46, v47, v48, v49, v50, v51, v52, v53, v54, v55, v56, v57, v58, v59, v60, v61, v62, v63, v64, v65, v66, v67, v68, v69, v70, v71, v72, v73, v74, v75, v76, v77, v78, v79, v80, v81, v82, v83, v84, v85, v86, v87, v88, v89, v90, v91, v92, v93, v94, v95, v96, v97, v98, v99, v100, v101, v102, v103, v104, v105, v106, v107, v108, v109, v110, v111, v112, v113, v114, v115, v116, v117, v118, v119, v120, v121, v122, v123, v124, v125, v126, v127, v128, v129, v130, v131, v132, v133, v134, v135, v136, v137, v138, v139, v140, v141, v142, v143, v144, v145, v146, v147, v148, v149, v150, v151, v152, v153, v154, v155, v156, v157, v158, v159, v160, v161, v162, v163, v164, v165, v166, v167, v168, v169, v170, v171, v172, v173, v174, v175, v176, v177, v178, v179, v180, v181, v182, v183, v184, v185, v186, v187, v188, v189, v190, v191, v192, v193, v194, v195, v196, v197, v198, v199, v200, v201, v202, v203, v204, v205, v206, v207, v208, v209, v210, v211, v212, v213, v214, v215, v216, v217, v218, v219, v220, v221, v222, v223, v224, v225, v226, v227, v228, v229, v230, v231, v232, v233, v234, v235, v236, v237, v238, v239, v240, v241, v242, v243, v244, v245, v246, v247, v248, v249, v250, v251, v252, v253, v254, v255, v256, v257, v258, v259, v260, v261, v262, v263, v264, v265, v266, v267, v268, v269, v270, v271, v272, v273, v274, v275, v276, v277, v278, v279, v280, v281, v282, v283, v284, v285, v286, v287, v288, v289, v290, v291, v292, v293, v294, v295, v296, v297, v298, v299, v300, v301, v302, v303, v304, v305, v306, v307, v308, v309, v310, v311, v312, v313, v314, v315, v316, v317, v318, v319, v320, v321, v322, v323, v324, v325, v326, v327, v328, v329, v330, v331, v332, v333, v334, v335, v336, v337, v338, v339, v340, v341, v342, v343, v344, v345, v346, v347, v348, v349, v350, v351, v352, v353, v354, v355, v356, v357, v358, v359, v360, v361, v362, v363, v364, v365, v366, v367, v368, v369, v370, v371, v372, v373, v374, v375, v376, v377, v378, v379, v380, v381, v382, v383, v384, v385, v386, v387, v388, v389, v390, v391, v392, v393, v394, v395, v396, v397, v398, v399, v400, v401, v402, v403, v404, v405, v406, v407, v408, v409, v410, v411, v412, v413, v414, v415, v416, v417, v418, v419, v420, v421, v422, v423, v424, v425, v426, v427, v428, v429, v430, v431, v432, v433, v434, v435, v436, v437, v438, v439, v440, v441, v442, v443, v444, v445, v446, v447, v448, v449, v450, v451, v452, v453, v454, v455, v456, v457, v458, v459, v460, v461, v462, v463, v464, v465, v466, v467, v468, v469, v470, v471, v472, v473, v474, v475, v476, v477, v478, v479, v480, v481, v482, v483, v484, v485, v486, v487, v488, v489, v490, v491, v492, v493, v494, v495, v496, v497, v498, v499, v500, v501, v502, v503, v504, v505, v506, v507, v508, v509, v510, v511, v512, v513, v514, v515, v516, v517, v518, v519, v520, v521, v522, v523, v524, v525, v526, v527, v528, v529], defers := [] } w := by
  have HK := (show Hid _ from hK)
  have HN : Hid (N = devs.length ∧ AB < w.heap.size ∧ KB < w.heap.size ∧ w.cell? ⟨AB, 4, none⟩ = some (.slice da N dc) ∧ ∀ d, d < N → w.cell? ⟨KB, d, none⟩ = some (.int .i64 ((dk (devs.getD d ByteArray.empty) : Int) - 1))) := ⟨hN, hA, hKB, hca, hkeys⟩
  have HD : Hid (0 < N → ∃ b off, da = some ⟨b, off, none⟩ ∧ b < w.heap.size ∧ ∀ i, i < N → w.cell? ⟨b, off + i, none⟩ = some (.string (devs.getD i ByteArray.empty))) := by
    intro h0
    obtain ⟨b, off, c, hv, _, _, hb, hc⟩ := hdev.some (by simpa [← hN] using h0)
    injection hv with e1
    exact ⟨b, off, e1, hb, fun i hi => hc i _ (map_getD_string _ _ (by omega))⟩
  have hdc : N ≤ dc ∧ dc ≤ maxLen := by
    obtain ⟨ao, c, hv, h1, h2, _⟩ := hdev
    injection hv with _ _ e3
    rw [List.length_map, ← hN] at h1
    exact ⟨by omega, by omega⟩
  obtain ⟨hdc1, hdc2⟩ := hdc
  obtain ⟨i9, hi9, hz9, hs9, hb9⟩ := info_parts Try.info9
  unfold maxLen at hdc2
  clear hK hN hdev hA hKB hca hkeys
  unfold bodyG body23 body7 Try.f7
  simp only [Option.getD_some, dropS, headS, inS]
  go_wp2_with fail
  go_loopw [45, 46] (fun r p x => ∃ (d : Nat), d ≤ N ∧ p = .int .i64 d ∧ Kq (· < w.heap.size) w x ∧ Own (· < w.heap.size) 9 x r ((those dk (devs.take d) q).map .string)) (fun _ p _ => N - (intOf p).toNat)
  case atStart => exact ⟨0, Nat.zero_le _, rfl, Kq.refl _ _, Own.nil _ _ _⟩
  case round =>
    obtain ⟨d, hd, rfl, hkq, hown⟩ := hrel
    have H : Hid (Kq (· < w.heap.size) w wr ∧ Own (· < w.heap.size) 9 wr u45 ((those dk (devs.take d) q).map .string)) := ⟨hkq, hown⟩
    clear hkq hown
    have ca := (H.out.1.cell (p := ⟨AB, 4, none⟩) HN.out.2.1).trans HN.out.2.2.2.1
    by_cases hlt : d < N
    · have hlt' : (d : Int) < (N : Int) := by omega
      obtain ⟨db, do', hda, hdQ, hdcs⟩ := HD.out (by omega)
      subst hda
      have c1 := (H.out.1.cell (p := ⟨db, do' + d, none⟩) hdQ).trans (hdcs d hlt)
      have c2 := (H.out.1.cell (p := ⟨KB, d, none⟩) HN.out.2.2.1).trans (HN.out.2.2.2.2 d hlt)
      obtain ⟨s, hs⟩ : ∃ s, s = devs.getD d ByteArray.empty := ⟨_, rfl⟩
      rw [← hs] at c1 c2
      have HS : Hid (s = devs.getD d ByteArray.empty) := hs
      have HT := (show Hid _ from those_take dk devs ByteArray.empty q d (by rw [← HN.out.1]; exact hlt))
      have HLen : Hid ((those dk (devs.take d) q).length ≤ 65536) := by
        have h1 := those_len dk (devs.take d) q
        have h2 : (devs.take d).length ≤ 65536 := by rw [List.length_take]; omega
        exact Nat.le_trans h1 h2
      obtain ⟨k, hk⟩ : ∃ k, k = dk s := ⟨_, rfl⟩
      rw [← hk] at c2
      have HKs : Hid (k = dk s) := hk
      clear hdcs hs hdQ hk
      by_cases hkq : k = q
      · have HE : Hid (those dk (devs.take (d + 1)) q = those dk (devs.take d) q ++ [s]) := by
          show those dk (devs.take (d + 1)) q = _
          rw [HT.out, ← HS.out, if_pos (by rw [← HKs.out]; exact hkq)]
        clear HT
        subst hkq
        go_wp2_with (at_builtin; refine wpList_append_q _ rfl (.tmp 469) (.tmp 475) 31 rfl 9 i9 (.string ⟨#[]⟩) 16 Try.underlying31 hi9 hz9 hs9 hb9 rfl (· < w.heap.size) ?hq u45 _ rfl (H.out.2.alloc _) (fun _ => True) _ [_] rfl (rd_one (heap_alloc_new _ _)) ?h1 ?h63 ?hby ?_)
        case hq => intro x hx; have h1 := H.out.1.size; simp; omega
        case h1 => rfl
        case h63 => have := HLen.out; unfold maxLen; omega
        case hby => have := HLen.out; omega
        intro v' w3 ho hk3 _
        have HN3 : Hid (Kq (· < w.heap.size) w w3 ∧ Own (· < w.heap.size) 9 w3 v' ((those dk (devs.take (d + 1)) k).map .string)) := by
          refine ⟨H.out.1.trans (Kq.trans ((Kq.refl _ _).alloc (fun x hx => by have h1 := H.out.1.size; omega) _) hk3), ?_⟩
          rw [HE.out, List.map_append]; exact ho
        clear ho hk3
        go_wp2_with fail
        go_roundw
        case rel => exact ⟨d + 1, by omega, by go_num, HN3.out.1, HN3.out.2⟩
        case measure => simp [intOf]; omega
      · have HE : Hid (those dk (devs.take (d + 1)) q = those dk (devs.take d) q) := by
          show those dk (devs.take (d + 1)) q = _
          rw [HT.out, ← HS.out, if_neg (by rw [← HKs.out]; exact hkq), List.append_nil]
        clear HT
        have hne : ¬ ((k : Int) - 1 = (q : Int) - 1) := by omega
        have hde : decide ((k : Int) - 1 = (q : Int) - 1) = false := decide_eq_false hne
        have hde2 : (((k : Int) - 1) == ((q : Int) - 1)) = false := by simp; omega
        go_wp2_with fail
        go_roundw
        case rel => exact ⟨d + 1, by omega, by go_num, H.out.1, by rw [HE.out]; exact H.out.2⟩
        case measure => simp [intOf]; omega
    · obtain rfl : d = N := by omega
      clear hlt
      have HE : Hid (those dk (devs.take d) q = those dk devs q) := by
        show those dk (devs.take d) q = _
        rw [HN.out.1, List.take_length]
      go_wp2_with fail
      exact HK.out _ _ _ _ _ _ _ _ _ _ _ _ _ _ _ _ _ _ _ _ _ _ u45 wr H.out.1 (by rw [← HE.out]; exact H.out.2)
end Go.Proofs.Qxb6609296a
