import Derived.Test.Qxb6609296aGot2
import Derived.Test.Qxb6609296aChk
namespace Go.Proofs.Qxb6609296a
open Go.RowKit Srt

theorem Ready.mono {Q Q' : Nat → Prop} {w : World} {RB EB VB n m cap : Nat} {av : Option Addr} {bv iv : Value} {ids : List ByteArray} {xs : List As} {D : Nat → Nat} {vals : Nat → Int} (h : Ready Q w RB EB VB n m cap av bv iv ids xs D vals) (hq : ∀ k, Q k → Q' k) : Ready Q' w RB EB VB n m cap av bv iv ids xs D vals :=
  ⟨h.rk, h.en, fun hm => ⟨(h.va hm).1, hq _ (h.va hm).2.1, (h.va hm).2.2⟩, hq _ h.qR, hq _ h.qE, h.bs.mono (fun k _ hk => hq k hk), h.xs.mono (fun k _ hk => hq k hk)⟩
theorem Ready.vals {Q : Nat → Prop} {w : World} {RB EB VB n m cap : Nat} {av : Option Addr} {bv iv : Value} {ids : List ByteArray} {xs : List As} {D : Nat → Nat} {vals : Nat → Int} (h : Ready Q w RB EB VB n m cap av bv iv ids xs D vals) (hm : 0 < m) (hmc : m ≤ cap) (hcm : cap ≤ maxLen) : Rd Q w (.slice av m cap) ((valL vals m).map (.int .i64)) := by
  obtain ⟨rfl, hV, hc⟩ := h.va hm
  refine ⟨_, cap, by simp [valL], by simpa [valL] using hmc, hcm, (fun h => by cases h), fun _ => ⟨VB, 0, rfl, hV, fun i x hi => ?_⟩⟩
  have hi' : i < m := by have := (List.getElem?_eq_some_iff.1 hi).1; simpa [valL] using this
  have := hc i hi'
  simp [valL, hi'] at hi
  rw [← hi, Nat.zero_add]; exact this

set_option maxRecDepth 100000 in
set_option maxHeartbeats 8000000 in
theorem S21 (Q : Nat → Prop) (RB EB VB n m cap lb cb cn cg : Nat) (av ab an ag : Option Addr) (iv : Value) (ids : List ByteArray) (nodes : List Int) (given : List Bool) (xs : List As) (D : Nat → Nat) (vals : Nat → Int) (res : ByteArray)
    (hl : ListIs ids nodes given D m vals) (hn : n = ids.length) (hn4 : n ≤ 4096) (hs : sumSz ids ≤ 1048576) (hm4 : m ≤ 4096) (hmc : m ≤ cap) (hcm : cap ≤ maxLen) (hcn : n ≤ cn) (_hcnm : cn ≤ maxLen) (hcg : n ≤ cg) (_hcgm : cg ≤ maxLen)
    (hne : ∀ (i : Nat) a, xs[i]? = some a → a.rs = res → 0 < a.devs.length) (hb : ∀ (i : Nat) a, xs[i]? = some a → a.devs.length ≤ 1048576) (hx : xs.length ≤ 16384)
    (Qx : Exit → Act → World → Prop) {v0 v2 v5 v6 v7 v8 v9 v10 v11 v14 v15 v16 v17 v18 v19 v20 v23 v24 v25 v27 v28 v29 v30 v32 v33 v34 v35 v36 v37 v38 v39 v40 v41 v42 v43 v44 v45 v46 v47 v48 v49 v50 v51 v52 v53 v54 v55 v56 v57 v58 v59 v60 v61 v62 v63 v64 v65 v66 v67 v68 v69 v70 v71 v72 v73 v74 v75 v76 v77 v78 v79 v80 v81 v82 v83 v84 v85 v86 v87 v88 v89 v90 v91 v92 v93 v94 v95 v96 v97 v98 v99 v100 v101 v102 v103 v104 v105 v106 v107 v108 v109 v110 v111 v112 v113 v114 v115 v116 v117 v118 v119 v120 v121 v122 v123 v124 v125 v126 v127 v128 v129 v130 v131 v132 v133 v134 v135 v136 v137 v138 v139 v140 v141 v142 v143 v144 v145 v146 v147 v148 v149 v150 v151 v152 v153 v154 v155 v156 v157 v158 v159 v160 v161 v162 v163 v164 v165 v166 v167 v168 v169 v170 v171 v172 v173 v174 v175 v176 v177 v178 v179 v180 v181 v182 v183 v184 v185 v186 v187 v188 v189 v190 v191 v192 v193 v194 v195 v196 v197 v198 v199 v200 v201 v202 v203 v204 v205 v206 v207 v208 v209 v210 v211 v212 v213 v214 v215 v216 v217 v218 v219 v220 v221 v222 v223 v224 v225 v226 v227 v228 v229 v230 v231 v232 v233 v234 v235 v236 v237 v238 v239 v240 v241 v242 v243 v244 v245 v246 v247 v248 v249 v250 v251 v252 v253 v254 v255 v256 v257 v258 v259 v260 v261 v262 v263 v264 v265 v266 v267 v268 v269 v270 v271 v272 v273 v274 v275 v276 v277 v278 v279 v280 v281 v282 v283 v284 v285 v286 v287 v288 v289 v290 v291 v292 v293 v294 v295 v296 v297 v298 v299 v300 v301 v302 v303 v304 v305 v306 v307 v308 v309 v310 v311 v312 v313 v314 v315 v316 v317 v318 v319 v320 v321 v322 v323 v324 v325 v326 v327 v328 v329 v330 v331 v332 v333 v334 v335 v336 v337 v338 v339 v340 v341 v342 v343 v344 v345 v346 v347 v348 v349 v350 v351 v352 v353 v354 v355 v356 v357 v358 v359 v360 v361 v362 v363 v364 v365 v366 v367 v368 v369 v370 v371 v372 v373 v374 v375 v376 v377 v378 v379 v380 v381 v382 v383 v384 v385 v386 v387 v388 v389 v390 v391 v392 v393 v394 v395 v396 v397 v398 v399 v400 v401 v402 v403 v404 v405 v406 v407 v408 v409 v410 v411 v412 v413 v414 v415 v416 v417 v418 v419 v420 v421 v422 v423 v424 v425 v426 v427 v428 v429 v430 v431 v432 v433 v434 v435 v436 v437 v438 v439 v440 v441 v442 v443 v444 v445 v446 v447 v448 v449 v450 v451 v452 v453 v454 v455 v456 v457 v458 v459 v460 v461 v462 v463 v464 v465 v466 v467 v468 v469 v470 v471 v472 v473 v474 v475 v476 v477 v478 v479 v480 v481 v482 v483 v484 v485 v486 v487 v488 v489 v490 v491 v492 v493 v494 v495 v496 v497 v498 v499 v500 v501 v502 v503 v504 v505 v506 v507 v508 v509 v510 v511 v512 v513 v514 v515 v516 v517 v518 v519 v520 v521 v522 v523 v524 v525 v526 v527 v528 v529 : Value} (w : World) (hQ : ∀ k, Q k → k < w.heap.size) (hr : Ready Q w RB EB VB n m cap av (.slice ab lb cb) iv ids xs D vals) (hnodes : Ints w Q an n nodes) (hgiven : Bools w Q ag n given)
    (hK : ∀ (u33 u34 u35 u36 u305 u306 u307 u308 u309 u310 u311 u312 u313 u314 u315 u316 u317 u318 u319 u320 u321 u322 u323 u324 u325 u326 u327 u328 u329 u330 u331 u332 u333 u334 u335 u336 u337 u338 u339 u340 u341 u342 u343 u344 u345 u346 u347 u348 u349 u350 u351 u352 u353 u354 u355 u356 u357 u358 u359 u360 u361 u362 u363 r : Value) (w' : World), Got Q w vals (wantAll (dkOf ids nodes given m vals) m res xs) r w' → Qx .normal { tmps := #[v0, .string res, v2, .slice an n cn, .slice ag n cg, v5, v6, v7, v8, v9, v10, v11, .int .i64 (n : Nat), .slice (some ⟨RB, 0, none⟩) n n, v14, v15, v16, v17, v18, v19, v20, .slice ab lb cb, .slice (some ⟨EB, 0, none⟩) n n, v23, v24, v25, .slice av m cap, v27, v28, v29, v30, iv, r, u33, u34, u35, u36, v37, v38, v39, v40, v41, v42, v43, v44, v45, v46, v47, v48, v49, v50, v51, v52, v53, v54, v55, v56, v57, v58, v59, v60, v61, v62, v63, v64, v65, v66, v67, v68, v69, v70, v71, v72, v73, v74, v75, v76, v77, v78, v79, v80, v81, v82, v83, v84, v85, v86, v87, v88, v89, v90, v91, v92, v93, v94, v95, v96, v97, v98, v99, v100, v101, v102, v103, v104, v105, v106, v107, v108, v109, v110, v111, v112, v113, v114, v115, v116, v117, v118, v119, v120, v121, v122, v123, v124, v125, v126, v127, v128, v129, v130, v131, v132, v133, v134, v135, v136, v137, v138, v139, v140, v141, v142, v143, v144, v145, v146, v147, v148, v149, v150, v151, v152, v153, v154, v155, v156, v157, v158, v159, v160, v161, v162, v163, v164, v165, v166, v167, v168, v169, v170, v171, v172, v173, v174, v175, v176, v177, v178, v179, v180, v181, v182, v183, v184, v185, v186, v187, v188, v189, v190, v191, v192, v193, v194, v195, v196, v197, v198, v199, v200, v201, v202, v203, v204, v205, v206, v207, v208, v209, v210, v211, v212, v213, v214, v215, v216, v217, v218, v219, v220, v221, v222, v223, v224, v225, v226, v227, v228, v229, v230, v231, v232, v233, v234, v235, v236, v237, v238, v239, v240, v241, v242, v243, v244, v245, v246, v247, v248, v249, v250, v251, v252, v253, v254, v255, v256, v257, v258, v259, v260, v261, v262, v263, v264, v265, v266, v267, v268, v269, v270, v271, v272, v273, v274, v275, v276, v277, v278, v279, v280, v281, v282, v283, v284, v285, v286, v287, v288, v289, v290, v291, v292, v293, v294, v295, v296, v297, v298, v299, v300, v301, v302, v303, v304, u305, u306, u307, u308, u309, u310, u311, u312, u313, u314, u315, u316, u317, u318, u319, u320, u321, u322, u323, u324, u325, u326, u327, u328, u329, u330, u331, u332, u333, u334, u335, u336, u337, u338, u339, u340, u341, u342, u343, u344, u345, u346, u347, u348, u349, u350, u351, u352, u353, u354, u355, u356, u357, u358, u359, u360, u361, u362, u363, v364, v365, v366, v367, v368, v369, v370, v371, v372, v373, v374, v375, v376, v377, v378, v379, v380, v381, v382, v383, v384, v385, v386, v387, v388, v389, v390, v391, v392, v393, v394, v395, v396, v397, v398, v399, v400, v401, v402, v403, v404, v405, v406, v407, v408, v409, v410, v411, v412, v413, v414, v415, v416, v417, v418, v419, v420, v421, v422, v423, v424, v425, v426, v427, v428, v429, v430, v431, v432, v433, v434, v435, v436, v437, v438, v439, v440, v441, v442, v443, v444, v445, v446, v447, v448, v449, v450, v451, v452, v453, v454, v455, v456, v457, v458, v459, v460, v461, v462, v463, v464, v465, v466, v467, v468, v469, v470, v471, v472, v473, v474, v475, v476, v477, v478, v479, v480, v481, v482, v483, v484, v485, v486, v487, v488, v489, v490, v491, v492, v493, v494, v495, v496, v497, v498, v499, v500, v501, v502, v503, v504, v505, v506, v507, v508, v509, v510, v511, v512, v513, v514, v515, v516, v517, v518, v519, v520, v521, v522, v523, v524, v525, v526, v527, v528, v529], defers := [] } w') :
    (headS (dropS 21 body7)).wp Try.prog Qx { tmps := #[v0, .string res, v2, .slice an n cn, .slice ag n cg, v5, v6, v7, v8, v9, v10, v11, .int .i64 (n : Nat), .slice (some ⟨RB, 0, none⟩) n n, v14, v15, v16, v17, v18, v19, v20, .slice ab lb cb, .slice (some ⟨EB, 0, none⟩) n n, v23, v24, v25, .slice av m cap, v27, v28, v29, v30, iv, v32, v33, v34, v35, v36, v37, v38, v39, v40, v41, v42, v43, v44, v45, v46, v47, v48, v49, v50, v51, v52, v53, v54, v55, v56, v57, v58, v59, v60, v61, v62, v63, v64, v65, v66, v67, v68, v69, v70, v71, v72, v73, v74, v75, v76, v77, v78, v79, v80, v81, v82, v83, v84, v85, v86, v87, v88, v89, v90, v91, v92, v93, v94, v95, v96, v97, v98, v99, v100, v101, v102, v103, v104, v105, v106, v107, v108, v109, v110, v111, v112, v113, v114, v115, v116, v117, v118, v119, v120, v121, v122, v123, v124, v125, v126, v127, v128, v129, v130, v131, v132, v133, v134, v135, v136, v137, v138, v139, v140, v141, v142, v143, v144, v145, v146, v147, v148, v149, v150, v151, v152, v153, v154, v155, v156, v157, v158, v159, v160, v161, v162, v163, v164, v165, v166, v167, v168, v169, v170, v171, v172, v173, v174, v175, v176, v177, v178, v179, v180, v181, v182, v183, v184, v185, v186, v187, v188, v189, v190, v191, v192, v193, v194, v195, v196, v197, v198, v199, v200, v201, v202, v203, v204, v205, v206, v207, v208, v209, v210, v211, v212, v213, v214, v215, v216, v217, v218, v219, v220, v221, v222, v223, v224, v225, v226, v227, v228, v229, v230, v231, v232, v233, v234, v235, v236, v237, v238, v239, v240, v241, v242, v243, v244, v245, v246, v247, v248, v249, v250, v251, v252, v253, v254, v255, v256, v257, v258, v259, v260, v261, v262, v263, v264, v265, v266, v267, v268, v269, v270, v271, v272, v273, v274, v275, v276, v277, v278, v279, v280, v281, v282, v283, v284, v285, v286, v287, v288, v289, v290, v291, v292, v293, v294, v295, v296, v297, v298, v299, v300, v301, v302, v303, v304, v305, v306, v307, v308, v309, v310, v311, v312, v313, v314, v315, v316, v317, v318, v319, v320, v321, v322, v323, v324, v325, v326, v327, v328, v329, v330, v331, v332, v333, v334, v335, v336, v337, v338, v339, v340, v341, v342, v343, v344, v345, v346, v347, v348, v349, v350, v351, v352, v353, v354, v355, v356, v357, v358, v359, v360, v361, v362, v363, v364, v365, v366, v367, v368, v369, v370, v371, v372, v373, v374, v375, v376, v377, v378, v379, v380, v381, v382, v383, v384, v385, v386, v387, v388, v389, v390, v391, v392, v393, v394, v395, v396, v397, v398, v399, v400, v401, v402, v403, v404, v405, v406, v407, v408, v409, v410, v411, v412, v413, v414, v415, v416, v417, v418, v419, v420, v421, v422, v423, v424, v425, v426, v427, v428, v429, v430, v431, v432, v433, v434, v435, v436, v437, v438, v439, v440, v441, v442, v443, v444, v445, v446, v447, v448, v449, v450, v451, v452, v453, v454, v455, v456, v457, v458, v459, v460, v461, v462, v463, v464, v465, v466, v467, v468, v469, v470, v471, v472, v473, v474, v475, v476, v477, v478, v479, v480, v481, v482, v483, v484, v485, v486, v487, v488, v489, v490, v491, v492, v493, v494, v495, v496, v497, v498, v499, v500, v501, v502, v503, v504, v505, v506, v507, v508, v509, v510, v511, v512, v513, v514, v515, v516, v517, v518, v519, v520, v521, v522, v523, v524, v525, v526, v527, v528, v529], defers := [] } w := by
  have HI : Hid (Ints w Q an n nodes ∧ Bools w Q ag n given) := ⟨hnodes, hgiven⟩
  have HK := (show Hid _ from hK)
  have HQ : Hid (∀ k, Q k → k < w.heap.size) := hQ
  have HL : Hid (ListIs ids nodes given D m vals) := hl
  have HB : Hid (n = ids.length ∧ sumSz ids ≤ 1048576 ∧ (∀ (i : Nat) a, xs[i]? = some a → a.rs = res → 0 < a.devs.length) ∧ (∀ (i : Nat) a, xs[i]? = some a → a.devs.length ≤ 1048576) ∧ xs.length ≤ 16384 ∧ cap ≤ maxLen) := ⟨hn, hs, hne, hb, hx, hcm⟩
  have HR : Hid (Ready Q w RB EB VB n m cap av (.slice ab lb cb) iv ids xs D vals) := hr
  have hcv : (convert 40 9 (.slice ab lb cb)).run Try.prog w = .ok (.string (catOf ids)) w := rd_string hr.bs
  obtain ⟨cat, hcat⟩ : ∃ cat, cat = catOf ids := ⟨_, rfl⟩
  have HCat : Hid (cat = catOf ids) := hcat
  rw [← hcat] at hcv
  unfold maxLen at hcm
  clear hK hnodes hgiven hQ hl hn hs hne hb hx hr hcat
  by_cases hm0 : m = 0
  · subst hm0
    unfold body7 Try.f7
    simp only [Option.getD_some, dropS, headS]
    go_wp2_with fail
    refine (noNodes_any cat _ _ n n n n _).mono ?_
    rintro e w1 ⟨A, L, rfl, hA, hL, hsz, hk, a0, a1, a2, l0, l1⟩
    have HC : Hid (Calls Try.prog 16 #[iv, .string res, .pointer (some ⟨L, 0, none⟩)] w1 fun e w' => ∃ r, e = .returned r ∧ Got Q w vals (wantAll (dkOf ids nodes given 0 vals) 0 res xs) r w') := by
      obtain ⟨b1, b2, b3, b4, b5, b6⟩ := HB.out
      rw [HCat.out] at a0
      exact got_none Q w w1 RB EB VB n 0 cap A L av _ iv ids nodes given xs D vals res HQ.out HR.out HL.out b1 hn4 b2 rfl b3 b4 b5 hA hL hsz hk a0 a1 a2 l0 l1
    clear hA hL hsz hk a0 a1 a2 l0 l1
    go_wp2_with fail
    refine HC.out.mono ?_
    rintro e w2 ⟨r, rfl, hg⟩
    have HG : Hid (Got Q w vals (wantAll (dkOf ids nodes given 0 vals) 0 res xs) r w2) := hg
    clear hg
    go_wp2_with fail
    exact HK.out _ _ _ _ _ _ _ _ _ _ _ _ _ _ _ _ _ _ _ _ _ _ _ _ _ _ _ _ _ _ _ _ _ _ _ _ _ _ _ _ _ _ _ _ _ _ _ _ _ _ _ _ _ _ _ _ _ _ _ _ _ _ _ r w2 HG.out
  · have hmk1 := run_make_row' (P := Try.prog) 39 24 (.int .u32 0) 4 Try.underlying39 Try.info24 rfl .i64 .i64 (m + 1) (by omega) (by omega)
    have hmk2 := run_make_row' (P := Try.prog) 39 24 (.int .u32 0) 4 Try.underlying39 Try.info24 rfl .i64 .i64 n (by omega) (by omega)
    have e1 : ((m + 1 : Nat) : Int) = (m : Int) + 1 := by omega
    rw [e1] at hmk1
    clear e1
    have hm0' : ¬ ((m : Int) = 0) := by omega
    have k1 : IntKind.i64.wrap ((m : Int) + 1) = (m : Int) + 1 := by rw [IntKind.wrap_i64]; omega
    unfold body7 Try.f7
    simp only [Option.getD_some, dropS, headS]
    go_wp2_with fail
    obtain ⟨W1, hW1⟩ : ∃ W1, W1 = w.alloc (.cells (madeCells #[.int .u32 0] (m + 1)) 24) := ⟨_, rfl⟩
    have HW1 : Hid (Rw W1 w.heap.size 24 (m + 1) (fun _ => .int .u32 0) W1 ∧ Kq (· < w.heap.size) w W1 ∧ W1.heap.size = w.heap.size + 1) := by
      refine ⟨by rw [hW1]; exact Rw.made _ _ _ _, by rw [hW1]; exact (Kq.refl _ _).alloc (fun _ h => h) _, by rw [hW1]; simp⟩
    rw [← hW1]
    clear hW1
    clear hmk1 k1
    go_loopw [34] (fun p x => ∃ (k : Nat) (f : Nat → Value), k ≤ m + 1 ∧ p = .int .i64 k ∧ Rw W1 w.heap.size 24 (m + 1) f x ∧ (∀ i, i < k → f i = .int .u32 i)) (fun p _ => m + 1 - (intOf p).toNat)
    case atStart => exact ⟨0, _, Nat.zero_le _, rfl, HW1.out.1, fun i hi => by omega⟩
    case round =>
      obtain ⟨k, f, hk, rfl, hst, hlo⟩ := hrel
      have HS : Hid (Rw W1 w.heap.size 24 (m + 1) f wr ∧ ∀ i, i < k → f i = .int .u32 i) := ⟨hst, hlo⟩
      clear hst hlo
      by_cases hlt : k < m + 1
      · have hlt' : (k : Int) < ((m + 1 : Nat) : Int) := by omega
        have hlt2 : (k : Int) < (m : Int) + 1 := by omega
        have c1 := HS.out.1.cell hlt
        have f1 := HS.out.1.free k
        clear hmk2 hcv
        go_wp2_with fail
        go_roundw
        case rel =>
          refine ⟨k + 1, upd f k (.int .u32 k), by omega, by go_num, HS.out.1.set, fun i hi => ?_⟩
          by_cases e : i = k
          · rw [e, upd_same]
          · rw [upd_other e]; exact HS.out.2 i (by omega)
        case measure => simp [intOf]; omega
      · obtain rfl : k = m + 1 := by omega
        have hge : ¬ ((m + 1 : Nat) : Int) < ((m + 1 : Nat) : Int) := by omega
        have hge2 : ¬ ((m : Int) + 1 < (m : Int) + 1) := by omega
        clear hlt hk hcv
        go_wp2_with fail
        have HS2 : Hid (Kq (· < w.heap.size) w wr ∧ w.heap.size < wr.heap.size ∧ ∀ i, i < m + 1 → wr.cell? ⟨w.heap.size, i, none⟩ = some (.int .u32 (i : Nat))) := by
          refine ⟨HW1.out.2.1.trans (HS.out.1.kq.mono (fun j hj => ⟨by omega, by have := HW1.out.2.2; omega⟩)), HS.out.1.lt, fun i hi => ?_⟩
          rw [HS.out.1.cell hi, HS.out.2 i hi]
        obtain ⟨W2, hW2⟩ : ∃ W2, W2 = wr.alloc (.cells (madeCells #[.int .u32 0] n) 24) := ⟨_, rfl⟩
        have HW2 : Hid (Rw W2 wr.heap.size 24 n (fun _ => .int .u32 0) W2 ∧ Kq (· < wr.heap.size) wr W2 ∧ W2.heap.size = wr.heap.size + 1) := by
          refine ⟨by rw [hW2]; exact Rw.made _ _ _ _, by rw [hW2]; exact (Kq.refl _ _).alloc (fun _ h => h) _, by rw [hW2]; simp⟩
        rw [← hW2]
        clear hW2 HS hmk2
        obtain ⟨FB, hFB⟩ : ∃ FB, FB = wr.heap.size := ⟨_, rfl⟩
        obtain ⟨SB, hSB⟩ : ∃ SB, SB = w.heap.size := ⟨_, rfl⟩
        rw [← hFB, ← hSB]
        have HF : Hid (FB = wr.heap.size ∧ SB = w.heap.size) := ⟨hFB, hSB⟩
        clear hFB hSB
        go_loopw [36] (fun p x => ∃ (j : Nat) (f : Nat → Value), j ≤ n ∧ p = .int .i64 j ∧ Rw W2 FB 24 n f x ∧ (∀ i, i < j → f i = .int .u32 (ofJ nodes given m vals i : Nat)) ∧ (∀ i, j ≤ i → f i = .int .u32 0)) (fun p _ => n - (intOf p).toNat)
        case atStart => exact ⟨0, _, Nat.zero_le _, rfl, by rw [HF.out.1]; exact HW2.out.1, fun i hi => by omega, fun i _ => rfl⟩
        case round =>
          obtain ⟨j, f, hj, rfl, hst, hlo, hhi⟩ := hrel
          obtain ⟨wo, hwo⟩ : ∃ wo : World, wo = wr := ⟨_, rfl⟩
          have HS : Hid (Rw W2 FB 24 n f wr ∧ (∀ i, i < j → f i = .int .u32 (ofJ nodes given m vals i : Nat)) ∧ (∀ i, j ≤ i → f i = .int .u32 0)) := ⟨hst, hlo, hhi⟩
          have HKx : Hid (Kq (· < w.heap.size) w wr ∧ w.heap.size < FB ∧ FB < wr.heap.size ∧ ∀ i, i < m + 1 → wr.cell? ⟨w.heap.size, i, none⟩ = some (.int .u32 (i : Nat))) := by
            obtain ⟨y1, y2, y3⟩ := HS2.out
            have z := HW2.out.2.2
            have k2 := HW2.out.2.1
            have e := HF.out.1
            refine ⟨y1.trans ((k2.mono (fun i hi => by omega)).trans (hst.kq.mono (fun i hi => ⟨by omega, by omega⟩))), by omega, hst.lt, fun i hi => ?_⟩
            rw [hst.kq.cell (p := ⟨w.heap.size, i, none⟩) ⟨by show w.heap.size ≠ FB; omega, by show w.heap.size < _; omega⟩, k2.cell (p := ⟨w.heap.size, i, none⟩) y2, y3 i hi]
          clear hst hlo hhi hwo
          by_cases hlt : j < n
          · have hlt' : (j : Int) < (n : Int) := by omega
            have cF := HS.out.1.cell hlt
            have fF := HS.out.1.free j
            have HQx : Hid (∀ k, Q k → k < w.heap.size) := HQ.out
            obtain ⟨gb, go', hag, hgQ, hgcs⟩ := HI.out.2 (by omega)
            obtain ⟨nb, no, han, hnQ, hncs⟩ := HI.out.1 (by omega)
            subst hag han
            have c2 := (HKx.out.1.cell (p := ⟨gb, go' + j, none⟩) (HQ.out _ hgQ)).trans (hgcs j hlt)
            have c3 := (HKx.out.1.cell (p := ⟨nb, no + j, none⟩) (HQ.out _ hnQ)).trans (hncs j hlt)
            obtain ⟨z, hz⟩ : ∃ z, z = nodes.getD j 0 := ⟨_, rfl⟩
            rw [← hz] at c3
            have HZ : Hid (z = nodes.getD j 0) := hz
            clear hncs hgcs hz hnQ hgQ
            cases hg : given.getD j false with
            | false =>
              rw [hg] at c2
              have HG : Hid (∀ i, i < j + 1 → f i = .int .u32 (ofJ nodes given m vals i : Nat)) := by
                intro i hi
                by_cases e : i = j
                · rw [e, ofn hg]; exact HS.out.2.2 j (Nat.le_refl _)
                · exact HS.out.2.1 i (by omega)
              clear hg
              go_wp2_with fail
              go_roundw
              case rel => exact ⟨j + 1, f, by omega, by go_num, HS.out.1, HG.out, fun i hi => HS.out.2.2 i (by omega)⟩
              case measure => simp [intOf]; omega
            | true =>
              rw [hg] at c2
              have HG : Hid (given.getD j false = true) := hg
              have HV : Hid (Rd Q wr (.slice av m cap) ((valL vals m).map (.int .i64))) := (HR.out.vals (by omega) hmc HB.out.2.2.2.2.2).kq (HKx.out.1.mono HQ.out)
              clear hg
              go_wp2_with fail
              refine (indexOf_any Q (.slice av m cap) (valL vals m) z _ HV.out (by rw [valL_len]; omega)).mono ?_
              rintro e w1 ⟨hw1, hr⟩
              subst w1
              rcases hr with ⟨rfl, hm⟩ | ⟨i, rfl, hi, hm⟩
              · exfalso
                obtain ⟨i, hi, e⟩ := HL.out.node j (by rw [← HB.out.1]; exact hlt) HG.out
                exact hm (valL_mem.2 ⟨i, hi, by rw [HZ.out, e]⟩)
              · rw [valL_len] at hi
                rw [valL_get hi] at hm
                have HE : Hid (ofJ nodes given m vals j = 1 + i) := HL.out.ofg HG.out hi (by rw [hm, HZ.out])
                clear hm
                have k1 : IntKind.i64.wrap (1 + (i : Int)) = 1 + (i : Int) := by rw [IntKind.wrap_i64]; omega
                have k2 : IntKind.u32.wrap (1 + (i : Int)) = 1 + (i : Int) := by rw [IntKind.wrap_u32]; omega
                go_wp2_with fail
                go_roundw
                case rel =>
                  refine ⟨j + 1, upd f j (.int .u32 (1 + (i : Int))), by omega, by go_num, HS.out.1.set, fun t ht => ?_, fun t ht => ?_⟩
                  · by_cases e : t = j
                    · rw [e, upd_same, HE.out]; congr 1
                    · rw [upd_other e]; exact HS.out.2.1 t (by omega)
                  · rw [upd_other (by omega)]; exact HS.out.2.2 t (by omega)
                case measure => simp [intOf]; omega
          · obtain rfl : j = n := by omega
            have hcv2 : (convert 40 9 (.slice ab lb cb)).run Try.prog wr = .ok (.string cat) wr := by rw [HCat.out]; exact rd_string (HR.out.bs.kq (HKx.out.1.mono HQ.out))
            obtain ⟨hav, _, _⟩ := HR.out.va (by omega)
            subst hav
            clear hlt
            go_wp2_with fail
            refine (withNodes_any cat _ _ _ _ _ j j j j m cap (m + 1) (m + 1) j j _).mono ?_
            rintro e w1 ⟨A, P, L, rfl, hA, hP, hL, hsz, hk, a0, a1, a2, l0, l1, p0, p1, p2⟩
            have HC : Hid (Calls Try.prog 16 #[iv, .string res, .pointer (some ⟨L, 0, none⟩)] w1 fun e w' => ∃ r, e = .returned r ∧ Got Q w vals (wantAll (dkOf ids nodes given m vals) m res xs) r w') := by
              obtain ⟨b1, b2, b3, b4, b5, b6⟩ := HB.out
              rw [HCat.out] at a0
              have hkw : Kq (· < w.heap.size) w wr := HKx.out.1
              have hF := HF.out
              have hx1 := HKx.out.2.1
              have hx2 := HKx.out.2.2.1
              have hsz2 := hkw.size
              refine (got_with (fun k => Q k ∨ k = SB ∨ k = FB) wr w1 RB EB VB SB FB j m cap A P L _ _ iv ids nodes given xs D vals res (fun k hk => ?_) ((HR.out.kq (hkw.mono HQ.out)).mono (fun _ h => .inl h)) HL.out b1 hn4 b2 (by omega) hm4 hmc b6 b3 b4 b5 (.inr (.inl rfl)) (.inr (.inr rfl)) (fun i hi => ?_) (fun i hi => ?_) hA hP hL hsz hk a0 a1 a2 l0 l1 p0 p1 p2).mono ?_
              · rcases hk with h | h | h
                · have := HQ.out k h; omega
                · omega
                · omega
              · rw [hF.2]; exact HKx.out.2.2.2 i hi
              · rw [HS.out.1.cell hi, HS.out.2.1 i hi]
              · rintro e w' ⟨r, rfl, hg⟩
                exact ⟨r, rfl, hg.from (fun _ h => .inl h) (hkw.mono HQ.out)⟩
            clear hA hP hL hsz hk a0 a1 a2 l0 l1 p0 p1 p2
            go_wp2_with fail
            refine HC.out.mono ?_
            rintro e w2 ⟨r, rfl, hg⟩
            have HG : Hid (Got Q w vals (wantAll (dkOf ids nodes given m vals) m res xs) r w2) := hg
            clear hg
            go_wp2_with fail
            exact HK.out _ _ _ _ _ _ _ _ _ _ _ _ _ _ _ _ _ _ _ _ _ _ _ _ _ _ _ _ _ _ _ _ _ _ _ _ _ _ _ _ _ _ _ _ _ _ _ _ _ _ _ _ _ _ _ _ _ _ _ _ _ _ _ r w2 HG.out
end Go.Proofs.Qxb6609296a
