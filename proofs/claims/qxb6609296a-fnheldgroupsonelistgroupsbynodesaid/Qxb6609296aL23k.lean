import Derived.Test.Qxb6609296aChk
namespace Go.Proofs.Qxb6609296a
open Go.RowKit Srt

set_option maxRecDepth 100000 in
set_option maxHeartbeats 8000000 in
/-- The keys of an assignment's devices. -/
theorem SK (W : World) (KB AB N n m cap ci cn cg dc : Nat) (ai an ag av da : Option Addr) (ids : List ByteArray) (nodes : List Int) (given : List Bool) (D : Nat → Nat) (vals : Nat → Int) (devs : List ByteArray)
    (hl : ListIs ids nodes given D m vals) (hn : n = ids.length) (hn4 : n ≤ 4096) (hm4 : m ≤ 4096) (hci : n ≤ ci) (hcim : ci ≤ maxLen) (hcn : n ≤ cn) (_hcnm : cn ≤ maxLen) (hcg : n ≤ cg) (_hcgm : cg ≤ maxLen) (hN : N = devs.length) (hN2 : N ≤ 1048576)
    (hids : Strs W (fun b => b ≠ KB ∧ b < W.heap.size) ai n ids) (hnodes : Ints W (fun b => b ≠ KB ∧ b < W.heap.size) an n nodes) (hgiven : Bools W (fun b => b ≠ KB ∧ b < W.heap.size) ag n given) (hvals : Rd (fun b => b ≠ KB ∧ b < W.heap.size) W (.slice av m cap) ((valL vals m).map (.int .i64)))
    (hdev : Rd (fun b => b ≠ KB ∧ b < W.heap.size) W (.slice da N dc) (devs.map .string)) (hA : AB ≠ KB ∧ AB < W.heap.size) (hca : W.cell? ⟨AB, 4, none⟩ = some (.slice da N dc))
    (Qx : Exit → Act → World → Prop) {v0 v1 v5 v6 v7 v8 v9 v10 v11 v13 v14 v15 v16 v17 v18 v19 v20 v21 v22 v23 v24 v25 v27 v28 v29 v30 v31 v32 v33 v34 v35 v36 v37 v38 v40 v42 v43 v44 v45 v46 v47 v48 v49 v50 v51 v52 v53 v54 v55 v56 v57 v58 v59 v60 v61 v62 v63 v64 v65 v66 v67 v68 v69 v70 v71 v72 v73 v74 v75 v76 v77 v78 v79 v80 v81 v82 v83 v84 v85 v86 v87 v88 v89 v90 v91 v92 v93 v94 v95 v96 v97 v98 v99 v100 v101 v102 v103 v104 v105 v106 v107 v108 v109 v110 v111 v112 v113 v114 v115 v116 v117 v118 v119 v120 v121 v122 v123 v124 v125 v126 v127 v128 v129 v130 v131 v132 v133 v134 v135 v136 v137 v138 v139 v140 v141 v142 v143 v144 v145 v146 v147 v148 v149 v150 v151 v152 v153 v154 v155 v156 v157 v158 v159 v160 v161 v162 v163 v164 v165 v166 v167 v168 v169 v170 v171 v172 v173 v174 v175 v176 v177 v178 v179 v180 v181 v182 v183 v184 v185 v186 v187 v188 v189 v190 v191 v192 v193 v194 v195 v196 v197 v198 v199 v200 v201 v202 v203 v204 v205 v206 v207 v208 v209 v210 v211 v212 v213 v214 v215 v216 v217 v218 v219 v220 v221 v222 v223 v224 v225 v226 v227 v228 v229 v230 v231 v232 v233 v234 v235 v236 v237 v238 v239 v240 v241 v242 v243 v244 v245 v246 v247 v248 v249 v250 v251 v252 v253 v254 v255 v256 v257 v258 v259 v260 v261 v262 v263 v264 v265 v266 v267 v268 v269 v270 v271 v272 v273 v274 v275 v276 v277 v278 v279 v280 v281 v282 v283 v284 v285 v286 v287 v288 v289 v290 v291 v292 v293 v294 v295 v296 v297 v298 v299 v300 v301 v302 v303 v304 v305 v306 v307 v308 v309 v310 v311 v312 v313 v314 v315 v316 v317 v318 v319 v320 v321 v322 v323 v324 v325 v326 v327 v328 v329 v330 v331 v332 v333 v334 v335 v336 v337 v338 v339 v340 v341 v342 v343 v344 v345 v346 v347 v348 v349 v350 v351 v352 v353 v354 v355 v356 v357 v358 v359 v360 v361 v362 v363 v364 v365 v366 v367 v368 v369 v370 v371 v372 v373 v374 v375 v376 v377 v378 v379 v380 v381 v382 v383 v384 v385 v386 v387 v388 v389 v390 v391 v392 v393 v394 v395 v396 v397 v398 v399 v400 v401 v402 v403 v404 v405 v406 v407 v408 v409 v410 v411 v412 v413 v414 v415 v416 v417 v418 v419 v420 v421 v422 v423 v424 v425 v426 v427 v428 v429 v430 v431 v432 v433 v434 v435 v436 v437 v438 v439 v440 v441 v442 v443 v444 v445 v446 v447 v448 v449 v450 v451 v452 v453 v454 v455 v456 v457 v458 v459 v460 v461 v462 v463 v464 v465 v466 v467 v468 v469 v470 v471 v472 v473 v474 v475 v476 v477 v478 v479 v480 v481 v482 v483 v484 v485 v486 v487 v488 v489 v490 v491 v492 v493 v494 v495 v496 v497 v498 v499 v500 v501 v502 v503 v504 v505 v506 v507 v508 v509 v510 v511 v512 v513 v514 v515 v516 v517 v518 v519 v520 v521 v522 v523 v524 v525 v526 v527 v528 v529 : Value} (w : World) (h : Rw W KB 3 N (fun _ => .int .i64 0) w)
    (hK : ∀ (u42 u43 u412 u413 u414 u415 u416 u417 u418 u419 u420 u421 u422 u423 u424 u425 u426 u427 u428 u429 u430 u431 u432 u433 u434 u435 u436 u437 u438 u439 u440 u441 u442 u443 u444 u445 u446 u447 u448 u449 : Value) (w' : World), Rw W KB 3 N (fun d => .int .i64 ((dkOf ids nodes given m vals (devs.getD d ByteArray.empty) : Int) - 1)) w' → Qx .normal { tmps := #[v0, v1, .slice ai n ci, .slice an n cn, .slice ag n cg, v5, v6, v7, v8, v9, v10, v11, .int .i64 (n : Nat), v13, v14, v15, v16, v17, v18, v19, v20, v21, v22, v23, v24, v25, .slice av m cap, v27, v28, v29, v30, v31, v32, v33, v34, v35, v36, v37, v38, .pointer (some ⟨AB, 0, none⟩), v40, .slice (some ⟨KB, 0, none⟩) N N, u42, u43, v44, v45, v46, v47, v48, v49, v50, v51, v52, v53, v54, v55, v56, v57, v58, v59, v60, v61, v62, v63, v64, v65, v66, v67, v68, v69, v70, v71, v72, v73, v74, v75, v76, v77, v78, v79, v80, v81, v82, v83, v84, v85, v86, v87, v88, v89, v90, v91, v92, v93, v94, v95, v96, v97, v98, v99, v100, v101, v102, v103, v104, v105, v106, v107, v108, v109, v110, v111, v112, v113, v114, v115, v116, v117, v118, v119, v120, v121, v122, v123, v124, v125, v126, v127, v128, v129, v130, v131, v132, v133, v134, v135, v136, v137, v138, v139, v140, v141, v142, v143, v144, v145, v146, v147, v148, v149, v150, v151, v152, v153, v154, v155, v156, v157, v158, v159, v160, v161, v162, v163, v164, v165, v166, v167, v168, v169, v170, v171, v172, v173, v174, v175, v176, v177, v178, v179, v180, v181, v182, v183, v184, v185, v186, v187, v188, v189, v190, v191, v192, v193, v194, v195, v196, v197, v198, v199, v200, v201, v202, v203, v204, v205, v206, v207, v208, v209, v210, v211, v212, v213, v214, v215, v216, v217, v218, v219, v220, v221, v222, v223, v224, v225, v226, v227, v228, v229, v230, v231, v232, v233, v234, v235, v236, v237, v238, v239, v240, v241, v242, v243, v244, v245, v246, v247, v248, v249, v250, v251, v252, v253, v254, v255, v256, v257, v258, v259, v260, v261, v262, v263, v264, v265, v266, v267, v268, v269, v270, v271, v272, v273, v274, v275, v276, v277, v278, v279, v280, v281, v282, v283, v284, v285, v286, v287, v288, v289, v290, v291, v292, v293, v294, v295, v296, v297, v298, v299, v300, v301, v302, v303, v304, v305, v306, v307, v308, v309, v310, v311, v312, v313, v314, v315, v316, v317, v318, v319, v320, v321, v322, v323, v324, v325, v326, v327, v328, v329, v330, v331, v332, v333, v334, v335, v336, v337, v338, v339, v340, v341, v342, v343, v344, v345, v346, v347, v348, v349, v350, v351, v352, v353, v354, v355, v356, v357, v358, v359, v360, v361, v362, v363, v364, v365, v366, v367, v368, v369, v370, v371, v372, v373, v374, v375, v376, v377, v378, v379, v380, v381, v382, v383, v384, v385, v386, v387, v388, v389, v390, v391, v392, v393, v394, v395, v396, v397, v398, v399, v400, v401, v402, v403, v404, v405, v406, v407, v408, v409, v410, v411, u412, u413, u414, u415, u416, u417, u418, u419, u420, u421, u422, u423, u424, u425, u426, u427, u428, u429, u430, u431, u432, u433, u434, u435, u436, u437, u438, u439, u440, u441, u442, u443, u444, u445, u446, u447, u448, u449, v450, v451, v452, v453, v454, v455, v456, v457, v458, v459, v460, v461, v462, v463, v464, v465, v466, v467, v468, v469, v470, v471, v472, v473, v474, v475, v476, v477, v478, v479, v480, v481, v482, v483, v484, v485, v486, v487, v488, v489, v490, v491, v492, v493, v494, v495, v496, v497, v498, v499, v500, v501, v502, v503, v504, v505, v506, v507, v508, v509, v510, v511, v512, v513, v514, v515, v516, v517, v518, v519, v520, v521, v522, v523, v524, v525, v526, v527, v528, v529], defers := [] } w') :
    (headS (dropS 3 body23)).wp Try.prog Qx { tmps := #[v0, v1, .slice ai n ci, .slice an n cn, .slice ag n cg, v5, v6, v7, v8, v9, v10, v11, .int .i64 (n : Nat), v13, v14, v15, v16, v17, v18, v19, v20, v21, v22, v23, v24, v25, .slice av m cap, v27, v28, v29, v30, v31, v32, v33, v34, v35, v36, v37, v38, .pointer (some ⟨AB, 0, none⟩), v40, .slice (some ⟨KB, 0, none⟩) N N, v42, v43, v44, v45, v46, v47, v48, v49, v50, v51, v52, v53, v54, v55, v56, v57, v58, v59, v60, v61, v62, v63, v64, v65, v66, v67, v68, v69, v70, v71, v72, v73, v74, v75, v76, v77, v78, v79, v80, v81, v82, v83, v84, v85, v86, v87, v88, v89, v90, v91, v92, v93, v94, v95, v96, v97, v98, v99, v100, v101, v102, v103, v104, v105, v106, v107, v108, v109, v110, v111, v112, v113, v114, v115, v116, v117, v118, v119, v120, v121, v122, v123, v124, v125, v126, v127, v128, v129, v130, v131, v132, v133, v134, v135, v136, v137, v138, v139, v140, v141, v142, v143, v144, v145, v146, v147, v148, v149, v150, v151, v152, v153, v154, v155, v156, v157, v158, v159, v160, v161, v162, v163, v164, v165, v166, v167, v168, v169, v170, v171, v172, v173, v174, v175, v176, v177, v178, v179, v180, v181, v182, v183, v184, v185, v186, v187, v188, v189, v190, v191, v192, v193, v194, v195, v196, v197, v198, v199, v200, v201, v202, v203, v204, v205, v206, v207, v208, v209, v210, v211, v212, v213, v214, v215, v216, v217, v218, v219, v220, v221, v222, v223, v224, v225, v226, v227, v228, v229, v230, v231, v232, v233, v234, v235, v236, v237, v238, v239, v240, v241, v242, v243, v244, v245, v246, v247, v248, v249, v250, v251, v252, v253, v254, v255, v256, v257, v258, v259, v260, v261, v262, v263, v264, v265, v266, v267, v268, v269, v270, v271, v272, v273, v274, v275, v276, v277, v278, v279, v280, v281, v282, v283, v284, v285, v286, v287, v288, v289, v290, v291, v292, v293, v294, v295, v296, v297, v298, v299, v300, v301, v302, v303, v304, v305, v306, v307, v308, v309, v310, v311, v312, v313, v314, v315, v316, v317, v318, v319, v320, v321, v322, v323, v324, v325, v326, v327, v328, v329, v330, v331, v332, v333, v334, v335, v336, v337, v338, v339, v340, v341, v342, v343, v344, v345, v346, v347, v348, v349, v350, v351, v352, v353, v354, v355, v356, v357, v358, v359, v360, v361, v362, v363, v364, v365, v366, v367, v368, v369, v370, v371, v372, v373, v374, v375, v376, v377, v378, v379, v380, v381, v382, v383, v384, v385, v386, v387, v388, v389, v390, v391, v392, v393, v394, v395, v396, v397, v398, v399, v400, v401, v402, v403, v404, v405, v406, v407, v408, v409, v410, v411, v412, v413, v414, v415, v416, v417, v418, v419, v420, v421, v422, v423, v424, v425, v426, v427, v428, v429, v430, v431, v432, v433, v434, v435, v436, v437, v438, v439, v440, v441, v442, v443, v444, v445, v446, v447, v448, v449, v450, v451, v452, v453, v454, v455, v456, v457, v458, v459, v460, v461, v462, v463, v464, v465, v466, v467, v468, v469, v470, v471, v472, v473, v474, v475, v476, v477, v478, v479, v480, v481, v482, v483, v484, v485, v486, v487, v488, v489, v490, v491, v492, v493, v494, v495, v496, v497, v498, v499, v500, v501, v502, v503, v504, v505, v506, v507, v508, v509, v510, v511, v512, v513, v514, v515, v516, v517, v518, v519, v520, v521, v522, v523, v524, v525, v526, v527, v528, v529], defers := [] } w := by
  have HI : Hid (Strs W (fun b => b ≠ KB ∧ b < W.heap.size) ai n ids ∧ Ints W (fun b => b ≠ KB ∧ b < W.heap.size) an n nodes ∧ Bools W (fun b => b ≠ KB ∧ b < W.heap.size) ag n given ∧ Rd (fun b => b ≠ KB ∧ b < W.heap.size) W (.slice av m cap) ((valL vals m).map (.int .i64))) := ⟨hids, hnodes, hgiven, hvals⟩
  have HK := (show Hid _ from hK)
  have HL : Hid (ListIs ids nodes given D m vals) := hl
  have HN : Hid (n = ids.length ∧ N = devs.length ∧ (AB ≠ KB ∧ AB < W.heap.size) ∧ W.cell? ⟨AB, 4, none⟩ = some (.slice da N dc)) := ⟨hn, hN, hA, hca⟩
  have HD : Hid (0 < N → ∃ b off, da = some ⟨b, off, none⟩ ∧ (b ≠ KB ∧ b < W.heap.size) ∧ ∀ i, i < N → W.cell? ⟨b, off + i, none⟩ = some (.string (devs.getD i ByteArray.empty))) := by
    intro h0
    obtain ⟨b, off, c, hv, _, _, hb, hc⟩ := hdev.some (by simpa [← hN] using h0)
    injection hv with e1
    exact ⟨b, off, e1, hb, fun i hi => hc i _ (map_getD_string _ _ (by omega))⟩
  have hdc : N ≤ dc ∧ dc ≤ maxLen := by
    obtain ⟨ao, c, hv, h1, h2, _⟩ := hdev
    injection hv with _ _ e3
    rw [List.length_map, ← hN] at h1
    exact ⟨by omega, by omega⟩
  obtain ⟨hdc1, hdc2⟩ := hdc
  have H0 : Hid (Rw W KB 3 N (fun _ => .int .i64 0) w) := h
  unfold maxLen at hcim hdc2
  clear hK hids hnodes hgiven hvals hl hn hN hdev hA hca h
  unfold body23 body7 Try.f7
  simp only [Option.getD_some, dropS, headS, inS]
  go_wp2_with fail
  go_loopw [42] (fun p x => ∃ (d : Nat) (f : Nat → Value), d ≤ N ∧ p = .int .i64 d ∧ Rw W KB 3 N f x ∧ (∀ i, i < d → f i = .int .i64 ((dkOf ids nodes given m vals (devs.getD i ByteArray.empty) : Int) - 1))) (fun p _ => N - (intOf p).toNat)
  case atStart => exact ⟨0, _, Nat.zero_le _, rfl, H0.out, fun i hi => by omega⟩
  case round =>
    obtain ⟨d, f, hd, rfl, hst, hlo⟩ := hrel
    have H : Hid (Rw W KB 3 N f wr ∧ (∀ i, i < d → f i = .int .i64 ((dkOf ids nodes given m vals (devs.getD i ByteArray.empty) : Int) - 1))) := ⟨hst, hlo⟩
    clear hst hlo H0
    have ca := (H.out.1.kq.cell (p := ⟨AB, 4, none⟩) HN.out.2.2.1).trans HN.out.2.2.2
    by_cases hlt : d < N
    · have hlt' : (d : Int) < (N : Int) := by omega
      obtain ⟨db, do', hda, hdQ, hdcs⟩ := HD.out (by omega)
      subst hda
      obtain ⟨s, hs⟩ : ∃ s, s = devs.getD d ByteArray.empty := ⟨_, rfl⟩
      have HDC : Hid (db ≠ KB ∧ db < W.heap.size ∧ W.cell? ⟨db, do' + d, none⟩ = some (.string s)) := ⟨hdQ.1, hdQ.2, by rw [hs]; exact hdcs d hlt⟩
      have HS : Hid (s = devs.getD d ByteArray.empty) := hs
      clear hdcs hs hdQ
      have c0 := H.out.1.cell (k := d) hlt
      have f0 := H.out.1.free d
      go_wp2_with fail
      go_loopw [43] (fun q x => ∃ (j : Nat), j ≤ n ∧ q = .int .i64 j ∧ Rw W KB 3 N (upd f d (.int .i64 (-1))) x ∧ (∀ t, t < j → ids.getD t ByteArray.empty ≠ s)) (fun q _ => n - (intOf q).toNat)
      case atStart => exact ⟨0, Nat.zero_le _, rfl, H.out.1.set, fun t ht => by omega⟩
      case round =>
        obtain ⟨j, hj, rfl, hst, hno⟩ := hrel
        have H2 : Hid (Rw W KB 3 N (upd f d (.int .i64 (-1))) wr ∧ (∀ t, t < j → ids.getD t ByteArray.empty ≠ s)) := ⟨hst, hno⟩
        clear hst hno ca c0 f0
        have ca := (H2.out.1.kq.cell (p := ⟨AB, 4, none⟩) HN.out.2.2.1).trans HN.out.2.2.2
        have HDone : ∀ (x : World) (u : Value), Hid (u = .int .i64 ((dkOf ids nodes given m vals s : Int) - 1) → Rw W KB 3 N (upd f d u) x → ∃ g, Rw W KB 3 N g x ∧ ∀ i, i < d + 1 → g i = .int .i64 ((dkOf ids nodes given m vals (devs.getD i ByteArray.empty) : Int) - 1)) := by
          intro x u hu hx
          refine ⟨_, hx, fun i hi => ?_⟩
          by_cases e : i = d
          · subst e; rw [upd_same, hu, HS.out]
          · rw [upd_other e]; exact H.out.2 i (by omega)
        by_cases hltj : j < n
        · have hltj' : (j : Int) < (n : Int) := by omega
          obtain ⟨ib, io, rfl, hiQ, hics⟩ := HI.out.1 (by omega)
          have c1 := (H2.out.1.kq.cell (p := ⟨ib, io + j, none⟩) hiQ).trans (hics j hltj)
          have c2 := (H2.out.1.kq.cell (p := ⟨db, do' + d, none⟩) ⟨HDC.out.1, HDC.out.2.1⟩).trans HDC.out.2.2
          obtain ⟨t, ht⟩ : ∃ t, t = ids.getD j ByteArray.empty := ⟨_, rfl⟩
          rw [← ht] at c1
          have HT : Hid (t = ids.getD j ByteArray.empty) := ht
          clear hics ht hiQ
          by_cases hts : t = s
          · subst hts
            have hbe := ba_same t
            have HJ : Hid (dkOf ids nodes given m vals t = ofJ nodes given m vals j) := by
              show dkOf ids nodes given m vals t = _
              rw [HT.out]; exact HL.out.dk (by rw [← HN.out.1]; exact hltj)
            obtain ⟨gb, go', rfl, hgQ, hgcs⟩ := HI.out.2.2.1 (by omega)
            have c3 := (H2.out.1.kq.cell (p := ⟨gb, go' + j, none⟩) hgQ).trans (hgcs j hltj)
            clear hgcs hgQ
            cases hg : given.getD j false with
            | false =>
              rw [hg] at c3
              have HG : Hid ((.int .i64 (-1) : Value) = .int .i64 ((dkOf ids nodes given m vals t : Int) - 1)) := by
                show (.int .i64 (-1) : Value) = _
                rw [HJ.out, ofn hg]; simp
              clear hg
              go_wp2_with fail
              go_quiet (fail)
              go_wp2_with fail
              go_roundw
              case rel =>
                obtain ⟨g, g1, g2⟩ := (HDone _ _).out HG.out (H2.out.1.drewN nq)
                exact ⟨d + 1, g, by omega, by go_num, g1, g2⟩
              case measure => simp [intOf]; omega
            | true =>
              rw [hg] at c3
              have HG : Hid (given.getD j false = true) := hg
              obtain ⟨nb, no, rfl, hnQ, hncs⟩ := HI.out.2.1 (by omega)
              have c4 := (H2.out.1.kq.cell (p := ⟨nb, no + j, none⟩) hnQ).trans (hncs j hltj)
              obtain ⟨z, hz⟩ : ∃ z, z = nodes.getD j 0 := ⟨_, rfl⟩
              rw [← hz] at c4
              have HZ : Hid (z = nodes.getD j 0) := hz
              have HV : Hid (Rd (fun b => b ≠ KB ∧ b < W.heap.size) wr (.slice av m cap) ((valL vals m).map (.int .i64))) := HI.out.2.2.2.kq H2.out.1.kq
              have cK := H2.out.1.cell (k := d) hlt
              have fK := H2.out.1.free d
              clear hncs hnQ hz hg
              go_wp2_with fail
              go_quiet (fail)
              go_wp2_with fail
              refine (indexOf_any (fun b => b ≠ KB ∧ b < W.heap.size) (.slice av m cap) (valL vals m) z _ (HV.out.kq ((Kq.refl _ _).drewN _)) (by rw [valL_len]; omega)).mono ?_
              rintro e w1 ⟨hw1, hr⟩
              subst w1
              rcases hr with ⟨rfl, hm⟩ | ⟨i, rfl, hi, hm⟩
              · exfalso
                obtain ⟨i, hi, e⟩ := HL.out.node j (by rw [← HN.out.1]; exact hltj) HG.out
                exact hm (valL_mem.2 ⟨i, hi, by rw [HZ.out, e]⟩)
              · rw [valL_len] at hi
                rw [valL_get hi] at hm
                have HE : Hid ((.int .i64 i : Value) = .int .i64 ((dkOf ids nodes given m vals t : Int) - 1)) := by
                  show (.int .i64 i : Value) = _
                  rw [HJ.out, HL.out.ofg HG.out hi (by rw [hm, HZ.out])]
                  congr 1; omega
                clear hm
                go_wp2_with fail
                go_roundw
                case rel =>
                  obtain ⟨g, g1, g2⟩ := (HDone _ _).out HE.out (((H2.out.1.drewN nq).set (i := d) (u := .int .i64 i)).ext (fun k _ => by
                    by_cases e : k = d
                    · subst e; rw [upd_same, upd_same]
                    · rw [upd_other e, upd_other e, upd_other e]))
                  exact ⟨d + 1, g, by omega, by go_num, g1, g2⟩
                case measure => simp [intOf]; omega
          · have hbn := ba_diff hts
            have HNo : Hid (∀ t', t' < j + 1 → ids.getD t' ByteArray.empty ≠ s) := by
              intro t' ht'
              by_cases e : t' = j
              · rw [e, ← HT.out]; exact hts
              · exact H2.out.2 t' (by omega)
            have hd1 : decide (t = s) = false := by simpa using hts
            have hd2 : (t.toList == s.toList) = false := by
              rw [ByteArray.toList_eq, ByteArray.toList_eq]
              simp only [beq_eq_false_iff_ne, ne_eq]
              exact fun e => hts (ba_ext e)
            go_wp2_with fail
            go_quiet (fail)
            go_wp2_with fail
            go_roundw
            case rel => exact ⟨j + 1, by omega, by go_num, H2.out.1.drewN nq, HNo.out⟩
            case measure => simp [intOf]; omega
        · obtain rfl : j = n := by omega
          have HG : Hid ((.int .i64 (-1) : Value) = .int .i64 ((dkOf ids nodes given m vals s : Int) - 1)) := by
            show (.int .i64 (-1) : Value) = _
            rw [dk_none (fun t ht => H2.out.2 t (by rw [HN.out.1]; exact ht))]; simp
          clear hltj
          go_wp2_with fail
          go_roundw
          case rel =>
            obtain ⟨g, g1, g2⟩ := (HDone _ _).out HG.out H2.out.1
            exact ⟨d + 1, g, by omega, by go_num, g1, g2⟩
          case measure => simp [intOf]; omega
    · obtain rfl : d = N := by omega
      clear hlt
      go_wp2_with fail
      exact HK.out _ _ _ _ _ _ _ _ _ _ _ _ _ _ _ _ _ _ _ _ _ _ _ _ _ _ _ _ _ _ _ _ _ _ _ _ _ _ _ _ wr (H.out.1.ext (fun i hi => H.out.2 i hi))
end Go.Proofs.Qxb6609296a
