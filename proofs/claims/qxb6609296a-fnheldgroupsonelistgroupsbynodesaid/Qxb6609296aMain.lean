import Derived.Test.Qxb6609296aTop
import Derived.Test.Qxb6609296aL8
import Derived.Test.Qxb6609296aListOf
import Derived.Test.Qxb6609296aL21
import Derived.Test.Qxb6609296aL23
namespace Go.Proofs.Qxb6609296a
open Go.RowKit Srt

theorem strs_rd {Q R : Nat → Prop} {w : World} {ai : Option Addr} {n ci : Nat} {l : List ByteArray} (h : Rd Q w (.slice ai n ci) (l.map .string)) (hn : n = l.length) (hR : ∀ b, Q b → R b) : Strs w R ai n l := by
  intro h0
  obtain ⟨b, off, c, hv, _, _, hb, hc⟩ := h.some (by rw [List.length_map]; omega)
  injection hv with e1
  exact ⟨b, off, e1, hR b hb, fun i hi => hc i _ (map_getD_string _ _ (by omega))⟩
theorem ints_rd {Q R : Nat → Prop} {w : World} {ai : Option Addr} {n ci : Nat} {l : List Int} (h : Rd Q w (.slice ai n ci) (l.map (.int .i64))) (hn : n = l.length) (hR : ∀ b, Q b → R b) : Ints w R ai n l := by
  intro h0
  obtain ⟨b, off, c, hv, _, _, hb, hc⟩ := h.some (by rw [List.length_map]; omega)
  injection hv with e1
  exact ⟨b, off, e1, hR b hb, fun i hi => hc i _ (map_getD_int _ _ (by omega))⟩
theorem bools_rd {Q R : Nat → Prop} {w : World} {ai : Option Addr} {n ci : Nat} {l : List Bool} (h : Rd Q w (.slice ai n ci) (l.map .bool)) (hn : n = l.length) (hR : ∀ b, Q b → R b) : Bools w R ai n l := by
  intro h0
  obtain ⟨b, off, c, hv, _, _, hb, hc⟩ := h.some (by rw [List.length_map]; omega)
  injection hv with e1
  exact ⟨b, off, e1, hR b hb, fun i hi => hc i _ (by have hi' : i < l.length := by omega
                                                     simp [hi'])⟩
theorem rd_cap {Q : Nat → Prop} {w : World} {ai : Option Addr} {n ci : Nat} {l : List Value} (h : Rd Q w (.slice ai n ci) l) : n ≤ ci ∧ ci ≤ maxLen := by
  obtain ⟨ao, c, hv, h1, h2, _⟩ := h
  injection hv with e1 e2 e3
  omega

set_option maxRecDepth 100000 in
set_option maxHeartbeats 8000000 in
theorem main7 (W : World) (ax ai an ag : Option Addr) (N cx li ci ln cn lg cg : Nat) (res : ByteArray) (xs : List As) (ids : List ByteArray) (nodes : List Int) (given : List Bool)
    (hx : Ass (· < W.heap.size) W (.slice ax N cx) xs) (hf : ∀ (i : Nat) a, xs[i]? = some a → AsFit a) (hN : N = xs.length) (hid : Rd (· < W.heap.size) W (.slice ai li ci) (ids.map .string)) (hli : li = ids.length) (hsz : ∀ i, i < ids.length → (ids.getD i ByteArray.empty).size ≤ maxLen) (hres : res.size ≤ maxLen)
    (hnod : Rd (· < W.heap.size) W (.slice an ln cn) (nodes.map (.int .i64))) (hln : ln = nodes.length) (hgiv : Rd (· < W.heap.size) W (.slice ag lg cg) (given.map .bool)) (hlg : lg = given.length)
    (Qx : Exit → Act → World → Prop) (hR : ∀ (t : Array Value) (w' : World), t.toList[10]? = some (.bool true) → Kq (· < W.heap.size) W w' → Qx .ret { tmps := t, defers := [] } w') {v5 v6 v7 v8 v9 v10 v11 v12 v13 v14 v15 v16 v17 v18 v19 v20 v21 v22 v23 v24 v25 v26 v27 v28 v29 v30 v31 v32 v33 v34 v35 v36 v37 v38 v39 v40 v41 v42 v43 v44 v45 v46 v47 v48 v49 v50 v51 v52 v53 v54 v55 v56 v57 v58 v59 v60 v61 v62 v63 v64 v65 v66 v67 v68 v69 v70 v71 v72 v73 v74 v75 v76 v77 v78 v79 v80 v81 v82 v83 v84 v85 v86 v87 v88 v89 v90 v91 v92 v93 v94 v95 v96 v97 v98 v99 v100 v101 v102 v103 v104 v105 v106 v107 v108 v109 v110 v111 v112 v113 v114 v115 v116 v117 v118 v119 v120 v121 v122 v123 v124 v125 v126 v127 v128 v129 v130 v131 v132 v133 v134 v135 v136 v137 v138 v139 v140 v141 v142 v143 v144 v145 v146 v147 v148 v149 v150 v151 v152 v153 v154 v155 v156 v157 v158 v159 v160 v161 v162 v163 v164 v165 v166 v167 v168 v169 v170 v171 v172 v173 v174 v175 v176 v177 v178 v179 v180 v181 v182 v183 v184 v185 v186 v187 v188 v189 v190 v191 v192 v193 v194 v195 v196 v197 v198 v199 v200 v201 v202 v203 v204 v205 v206 v207 v208 v209 v210 v211 v212 v213 v214 v215 v216 v217 v218 v219 v220 v221 v222 v223 v224 v225 v226 v227 v228 v229 v230 v231 v232 v233 v234 v235 v236 v237 v238 v239 v240 v241 v242 v243 v244 v245 v246 v247 v248 v249 v250 v251 v252 v253 v254 v255 v256 v257 v258 v259 v260 v261 v262 v263 v264 v265 v266 v267 v268 v269 v270 v271 v272 v273 v274 v275 v276 v277 v278 v279 v280 v281 v282 v283 v284 v285 v286 v287 v288 v289 v290 v291 v292 v293 v294 v295 v296 v297 v298 v299 v300 v301 v302 v303 v304 v305 v306 v307 v308 v309 v310 v311 v312 v313 v314 v315 v316 v317 v318 v319 v320 v321 v322 v323 v324 v325 v326 v327 v328 v329 v330 v331 v332 v333 v334 v335 v336 v337 v338 v339 v340 v341 v342 v343 v344 v345 v346 v347 v348 v349 v350 v351 v352 v353 v354 v355 v356 v357 v358 v359 v360 v361 v362 v363 v364 v365 v366 v367 v368 v369 v370 v371 v372 v373 v374 v375 v376 v377 v378 v379 v380 v381 v382 v383 v384 v385 v386 v387 v388 v389 v390 v391 v392 v393 v394 v395 v396 v397 v398 v399 v400 v401 v402 v403 v404 v405 v406 v407 v408 v409 v410 v411 v412 v413 v414 v415 v416 v417 v418 v419 v420 v421 v422 v423 v424 v425 v426 v427 v428 v429 v430 v431 v432 v433 v434 v435 v436 v437 v438 v439 v440 v441 v442 v443 v444 v445 v446 v447 v448 v449 v450 v451 v452 v453 v454 v455 v456 v457 v458 v459 v460 v461 v462 v463 v464 v465 v466 v467 v468 v469 v470 v471 v472 v473 v474 v475 v476 v477 v478 v479 v480 v481 v482 v483 v484 v485 v486 v487 v488 v489 v490 v491 v492 v493 v494 v495 v496 v497 v498 v499 v500 v501 v502 v503 v504 v505 v506 v507 v508 v509 v510 v511 v512 v513 v514 v515 v516 v517 v518 v519 v520 v521 v522 v523 v524 v525 v526 v527 v528 v529 : Value} :
    (dropS 0 body7).wp Try.prog Qx { tmps := #[.slice ax N cx, .string res, .slice ai li ci, .slice an ln cn, .slice ag lg cg, v5, v6, v7, v8, v9, v10, v11, v12, v13, v14, v15, v16, v17, v18, v19, v20, v21, v22, v23, v24, v25, v26, v27, v28, v29, v30, v31, v32, v33, v34, v35, v36, v37, v38, v39, v40, v41, v42, v43, v44, v45, v46, v47, v48, v49, v50, v51, v52, v53, v54, v55, v56, v57, v58, v59, v60, v61, v62, v63, v64, v65, v66, v67, v68, v69, v70, v71, v72, v73, v74, v75, v76, v77, v78, v79, v80, v81, v82, v83, v84, v85, v86, v87, v88, v89, v90, v91, v92, v93, v94, v95, v96, v97, v98, v99, v100, v101, v102, v103, v104, v105, v106, v107, v108, v109, v110, v111, v112, v113, v114, v115, v116, v117, v118, v119, v120, v121, v122, v123, v124, v125, v126, v127, v128, v129, v130, v131, v132, v133, v134, v135, v136, v137, v138, v139, v140, v141, v142, v143, v144, v145, v146, v147, v148, v149, v150, v151, v152, v153, v154, v155, v156, v157, v158, v159, v160, v161, v162, v163, v164, v165, v166, v167, v168, v169, v170, v171, v172, v173, v174, v175, v176, v177, v178, v179, v180, v181, v182, v183, v184, v185, v186, v187, v188, v189, v190, v191, v192, v193, v194, v195, v196, v197, v198, v199, v200, v201, v202, v203, v204, v205, v206, v207, v208, v209, v210, v211, v212, v213, v214, v215, v216, v217, v218, v219, v220, v221, v222, v223, v224, v225, v226, v227, v228, v229, v230, v231, v232, v233, v234, v235, v236, v237, v238, v239, v240, v241, v242, v243, v244, v245, v246, v247, v248, v249, v250, v251, v252, v253, v254, v255, v256, v257, v258, v259, v260, v261, v262, v263, v264, v265, v266, v267, v268, v269, v270, v271, v272, v273, v274, v275, v276, v277, v278, v279, v280, v281, v282, v283, v284, v285, v286, v287, v288, v289, v290, v291, v292, v293, v294, v295, v296, v297, v298, v299, v300, v301, v302, v303, v304, v305, v306, v307, v308, v309, v310, v311, v312, v313, v314, v315, v316, v317, v318, v319, v320, v321, v322, v323, v324, v325, v326, v327, v328, v329, v330, v331, v332, v333, v334, v335, v336, v337, v338, v339, v340, v341, v342, v343, v344, v345, v346, v347, v348, v349, v350, v351, v352, v353, v354, v355, v356, v357, v358, v359, v360, v361, v362, v363, v364, v365, v366, v367, v368, v369, v370, v371, v372, v373, v374, v375, v376, v377, v378, v379, v380, v381, v382, v383, v384, v385, v386, v387, v388, v389, v390, v391, v392, v393, v394, v395, v396, v397, v398, v399, v400, v401, v402, v403, v404, v405, v406, v407, v408, v409, v410, v411, v412, v413, v414, v415, v416, v417, v418, v419, v420, v421, v422, v423, v424, v425, v426, v427, v428, v429, v430, v431, v432, v433, v434, v435, v436, v437, v438, v439, v440, v441, v442, v443, v444, v445, v446, v447, v448, v449, v450, v451, v452, v453, v454, v455, v456, v457, v458, v459, v460, v461, v462, v463, v464, v465, v466, v467, v468, v469, v470, v471, v472, v473, v474, v475, v476, v477, v478, v479, v480, v481, v482, v483, v484, v485, v486, v487, v488, v489, v490, v491, v492, v493, v494, v495, v496, v497, v498, v499, v500, v501, v502, v503, v504, v505, v506, v507, v508, v509, v510, v511, v512, v513, v514, v515, v516, v517, v518, v519, v520, v521, v522, v523, v524, v525, v526, v527, v528, v529], defers := [] } W := by
  obtain ⟨hci, hcim⟩ := rd_cap hid
  obtain ⟨hcn, hcnm⟩ := rd_cap hnod
  obtain ⟨hcg, hcgm⟩ := rd_cap hgiv
  refine step7 0 ⟨_, _, rfl⟩ (T0 _ W ?_)
  refine step7 1 ⟨_, _, rfl⟩ (T1 _ _ _ _ res _ W (zzBytes_any (· < W.heap.size) _ xs res _ ids an ag ln cn lg cg W hx hf hid (by omega) (by omega) hres hsz) ?_ ?_)
  · intros; exact hR _ W rfl (Kq.refl _ _)
  intros
  refine step7 2 ⟨_, _, rfl⟩ (T2 N cx li ci ln cn lg cg ax ai an ag res _ W ?_ ?_)
  · intros; exact hR _ W rfl (Kq.refl _ _)
  intros
  rename_i b0 b1 b2 b3 b4
  refine step7 3 ⟨_, _, rfl⟩ (T3 _ _ _ _ res _ _ _ W (assBytes_any (· < W.heap.size) _ xs W (fun _ h => h) hx hf (by omega)) (fun w1 hk => listBytes_any (· < W.heap.size) res _ ids an ag ln cn lg cg w1 (hid.kq hk) (by omega) (by omega) hres hsz) ?_ ?_)
  · intros; rename_i w1 hk1; exact hR _ w1 rfl hk1
  intros
  rename_i w1 hk1 p1 p2
  refine step7 4 ⟨_, _, rfl⟩ (T4 li ci ln cn lg cg ai an ag _ w1 ?_ ?_)
  · intros; exact hR _ w1 rfl hk1
  intros
  rename_i e1 e2
  have e1 := e1.symm
  have e2 := e2.symm
  subst e1
  subst e2
  have hs1 := hk1.size
  refine step7 5 ⟨_, _, rfl⟩ (S5 (· < W.heap.size) ax N cx res xs hN b0 _ _ _ _ _ _ _ _ _ _ _ _ _ _ _ _ _ _ _ _ _ _ _ _ _ _ _ _ _ _ _ _ _ _ _ _ _ _ _ _ _ _ _ _ _ _ _ _ _ _ _ _ _ _ _ _ _ _ _ _ _ _ _ _ _ _ _ _ _ _ _ _ _ _ _ _ _ _ _ _ _ _ _ _ _ _ _ _ _ _ _ _ _ _ _ _ _ _ _ _ _ _ _ _ _ _ _ _ _ _ _ _ _ _ _ _ _ _ _ _ _ _ _ _ _ _ _ _ _ _ _ _ _ _ _ _ _ _ _ _ _ _ _ _ _ _ _ _ _ _ _ _ _ _ _ _ _ _ _ _ _ _ _ _ _ _ _ _ _ _ _ _ _ _ _ _ _ _ _ _ _ _ _ _ _ _ _ _ _ _ _ _ _ _ _ _ _ _ _ _ _ _ _ _ _ _ _ _ _ _ _ _ _ _ _ _ _ _ _ _ _ _ _ _ _ _ _ _ _ _ _ _ _ _ _ _ _ _ _ _ _ _ _ _ _ _ _ _ _ _ _ _ _ _ _ _ _ _ _ _ _ _ _ _ _ _ _ _ _ _ _ _ _ _ _ _ _ _ _ _ _ _ _ _ _ _ _ _ _ _ _ _ _ _ _ _ _ _ _ _ _ _ _ _ _ _ _ _ _ _ _ _ _ _ _ _ _ _ _ _ _ _ _ _ _ _ _ _ _ _ _ _ _ _ _ _ _ _ _ _ _ _ _ _ _ _ _ _ _ _ _ _ _ _ _ _ _ _ _ _ _ _ _ _ _ _ _ _ _ _ _ _ _ _ _ _ _ _ _ _ _ _ _ _ _ _ _ _ _ _ _ _ _ _ _ _ _ _ _ _ _ _ _ _ _ _ _ _ _ _ _ _ _ _ _ _ _ _ _ _ _ _ _ _ _ _ _ _ _ _ _ _ _ _ _ _ _ _ _ _ _ _ _ _ _ _ _ _ _ _ _ _ _ _ _ _ _ _ _ _ _ _ _ _ _ _ _ _ _ _ _ _ _ _ _ _ _ _ _ _ _ _ _ _ _ _ _ _ _ _ _ _ _ _ _ _ _ _ _ _ _ _ _ _ _ _ _ _ _ _ _ _ _ _ _ _ _ _ _ _ _ _ _ _ _ _ _ _ _ w1 (hx.kq hk1) ?_ ?_)
  · intros; exact hR _ w1 rfl hk1
  intros
  rename_i hne
  refine step7 6 ⟨_, _, rfl⟩ (T6 li ci ai _ w1 ?_)
  intros
  refine step7 7 ⟨_, _, rfl⟩ (T7 li _ w1 b2 ?_)
  intros
  obtain ⟨w2, hw2⟩ : ∃ w2, w2 = w1.alloc (.cells (madeCells #[.int .u32 0] li) 24) := ⟨_, rfl⟩
  have hrw2 : Rw w2 w1.heap.size 24 li (fun _ => .int .u32 0) w2 := by rw [hw2]; exact Rw.made _ _ _ _
  have hk2 : Kq (· < w1.heap.size) w1 w2 := by rw [hw2]; exact (Kq.refl _ _).alloc (fun _ h => h) _
  have hs2 : w2.heap.size = w1.heap.size + 1 := by rw [hw2]; simp
  rw [← hw2]
  clear hw2
  have hkW2 : Kq (· < W.heap.size) W w2 := hk1.trans (hk2.mono (fun k hk => by omega))
  have hstr2 : Strs w2 (fun b => b ≠ w1.heap.size) ai li ids := strs_rd (hid.kq hkW2) hli (fun b hb => by omega)
  refine step7 8 ⟨_, _, rfl⟩ (S8 w2 w1.heap.size li b2 _ _ _ _ _ _ _ _ _ _ _ _ _ _ _ _ _ _ _ _ _ _ _ _ _ _ _ _ _ _ _ _ _ _ _ _ _ _ _ _ _ _ _ _ _ _ _ _ _ _ _ _ _ _ _ _ _ _ _ _ _ _ _ _ _ _ _ _ _ _ _ _ _ _ _ _ _ _ _ _ _ _ _ _ _ _ _ _ _ _ _ _ _ _ _ _ _ _ _ _ _ _ _ _ _ _ _ _ _ _ _ _ _ _ _ _ _ _ _ _ _ _ _ _ _ _ _ _ _ _ _ _ _ _ _ _ _ _ _ _ _ _ _ _ _ _ _ _ _ _ _ _ _ _ _ _ _ _ _ _ _ _ _ _ _ _ _ _ _ _ _ _ _ _ _ _ _ _ _ _ _ _ _ _ _ _ _ _ _ _ _ _ _ _ _ _ _ _ _ _ _ _ _ _ _ _ _ _ _ _ _ _ _ _ _ _ _ _ _ _ _ _ _ _ _ _ _ _ _ _ _ _ _ _ _ _ _ _ _ _ _ _ _ _ _ _ _ _ _ _ _ _ _ _ _ _ _ _ _ _ _ _ _ _ _ _ _ _ _ _ _ _ _ _ _ _ _ _ _ _ _ _ _ _ _ _ _ _ _ _ _ _ _ _ _ _ _ _ _ _ _ _ _ _ _ _ _ _ _ _ _ _ _ _ _ _ _ _ _ _ _ _ _ _ _ _ _ _ _ _ _ _ _ _ _ _ _ _ _ _ _ _ _ _ _ _ _ _ _ _ _ _ _ _ _ _ _ _ _ _ _ _ _ _ _ _ _ _ _ _ _ _ _ _ _ _ _ _ _ _ _ _ _ _ _ _ _ _ _ _ _ _ _ _ _ _ _ _ _ _ _ _ _ _ _ _ _ _ _ _ _ _ _ _ _ _ _ _ _ _ _ _ _ _ _ _ _ _ _ _ _ _ _ _ _ _ _ _ _ _ _ _ _ _ _ _ _ _ _ _ _ _ _ _ _ _ _ _ _ _ _ _ _ _ _ _ _ _ _ _ _ _ _ _ _ _ _ _ _ _ _ _ _ _ _ _ _ _ _ _ _ _ _ _ _ _ _ _ _ _ _ _ _ _ _ _ _ _ _ _ _ _ _ _ _ _ _ _ _ _ _ _ _ _ _ _ _ _ _ w2 hrw2 ?_)
  intros
  rename_i w3 hrw3
  refine step7 9 ⟨_, _, rfl⟩ (S9 w2 w1.heap.size li ci ai ids b2 hci hcim hstr2 _ _ _ _ _ _ _ _ _ _ _ _ _ _ _ _ _ _ _ _ _ _ _ _ _ _ _ _ _ _ _ _ _ _ _ _ _ _ _ _ _ _ _ _ _ _ _ _ _ _ _ _ _ _ _ _ _ _ _ _ _ _ _ _ _ _ _ _ _ _ _ _ _ _ _ _ _ _ _ _ _ _ _ _ _ _ _ _ _ _ _ _ _ _ _ _ _ _ _ _ _ _ _ _ _ _ _ _ _ _ _ _ _ _ _ _ _ _ _ _ _ _ _ _ _ _ _ _ _ _ _ _ _ _ _ _ _ _ _ _ _ _ _ _ _ _ _ _ _ _ _ _ _ _ _ _ _ _ _ _ _ _ _ _ _ _ _ _ _ _ _ _ _ _ _ _ _ _ _ _ _ _ _ _ _ _ _ _ _ _ _ _ _ _ _ _ _ _ _ _ _ _ _ _ _ _ _ _ _ _ _ _ _ _ _ _ _ _ _ _ _ _ _ _ _ _ _ _ _ _ _ _ _ _ _ _ _ _ _ _ _ _ _ _ _ _ _ _ _ _ _ _ _ _ _ _ _ _ _ _ _ _ _ _ _ _ _ _ _ _ _ _ _ _ _ _ _ _ _ _ _ _ _ _ _ _ _ _ _ _ _ _ _ _ _ _ _ _ _ _ _ _ _ _ _ _ _ _ _ _ _ _ _ _ _ _ _ _ _ _ _ _ _ _ _ _ _ _ _ _ _ _ _ _ _ _ _ _ _ _ _ _ _ _ _ _ _ _ _ _ _ _ _ _ _ _ _ _ _ _ _ _ _ _ _ _ _ _ _ _ _ _ _ _ _ _ _ _ _ _ _ _ _ _ _ _ _ _ _ _ _ _ _ _ _ _ _ _ _ _ _ _ _ _ _ _ _ _ _ _ _ _ _ _ _ _ _ _ _ _ _ _ _ _ _ _ _ _ _ _ _ _ _ _ _ _ _ _ _ _ _ _ _ _ _ _ _ _ _ _ _ _ _ _ _ _ _ _ _ _ _ _ _ _ _ _ _ _ _ _ _ _ _ _ _ _ _ _ _ _ _ _ _ _ _ _ _ _ _ _ _ _ _ _ _ _ _ _ _ _ _ _ _ _ _ _ _ _ _ _ _ _ _ _ _ _ _ _ _ _ _ _ _ _ _ _ _ _ w3 hrw3 ?_)
  intros
  rename_i w4 D hrw4 hprm hsrt
  have hkRw : ∀ {f : Nat → Value} {w' : World}, Rw w2 w1.heap.size 24 li f w' → Kq (· < W.heap.size) W w' := fun h => hkW2.trans (h.kq.mono (fun k hk => ⟨by omega, by omega⟩))
  refine step7 10 ⟨_, _, rfl⟩ (S10 w2 w1.heap.size li ci ai ids D b2 hci hcim hstr2 hprm hsrt _ _ _ _ _ _ _ _ _ _ _ _ _ _ _ _ _ _ _ _ _ _ _ _ _ _ _ _ _ _ _ _ _ _ _ _ _ _ _ _ _ _ _ _ _ _ _ _ _ _ _ _ _ _ _ _ _ _ _ _ _ _ _ _ _ _ _ _ _ _ _ _ _ _ _ _ _ _ _ _ _ _ _ _ _ _ _ _ _ _ _ _ _ _ _ _ _ _ _ _ _ _ _ _ _ _ _ _ _ _ _ _ _ _ _ _ _ _ _ _ _ _ _ _ _ _ _ _ _ _ _ _ _ _ _ _ _ _ _ _ _ _ _ _ _ _ _ _ _ _ _ _ _ _ _ _ _ _ _ _ _ _ _ _ _ _ _ _ _ _ _ _ _ _ _ _ _ _ _ _ _ _ _ _ _ _ _ _ _ _ _ _ _ _ _ _ _ _ _ _ _ _ _ _ _ _ _ _ _ _ _ _ _ _ _ _ _ _ _ _ _ _ _ _ _ _ _ _ _ _ _ _ _ _ _ _ _ _ _ _ _ _ _ _ _ _ _ _ _ _ _ _ _ _ _ _ _ _ _ _ _ _ _ _ _ _ _ _ _ _ _ _ _ _ _ _ _ _ _ _ _ _ _ _ _ _ _ _ _ _ _ _ _ _ _ _ _ _ _ _ _ _ _ _ _ _ _ _ _ _ _ _ _ _ _ _ _ _ _ _ _ _ _ _ _ _ _ _ _ _ _ _ _ _ _ _ _ _ _ _ _ _ _ _ _ _ _ _ _ _ _ _ _ _ _ _ _ _ _ _ _ _ _ _ _ _ _ _ _ _ _ _ _ _ _ _ _ _ _ _ _ _ _ _ _ _ _ _ _ _ _ _ _ _ _ _ _ _ _ _ _ _ _ _ _ _ _ _ _ _ _ _ _ _ _ _ _ _ _ _ _ _ _ _ _ _ _ _ _ _ _ _ _ _ _ _ _ _ _ _ _ _ _ _ _ _ _ _ _ _ _ _ _ _ _ _ _ _ _ _ _ _ _ _ _ _ _ _ _ _ _ _ _ _ _ _ _ _ _ _ _ _ _ _ _ _ _ _ _ _ _ _ _ _ _ _ _ _ _ _ _ _ _ _ _ _ _ _ _ _ _ _ _ _ _ _ _ _ _ _ _ _ _ _ _ _ _ _ w4 hrw4 ?_ ?_)
  · intros; rename_i w' hrw'; exact hR _ w' rfl (hkRw hrw')
  intros
  rename_i w5 hrw5 hstrict
  have hkW5 := hkRw hrw5
  have hs5 := hkW5.size
  have hRB5 : w1.heap.size < w5.heap.size := hrw5.lt
  refine step7 11 ⟨_, _, rfl⟩ (T11 _ w5 ?_)
  refine step7 12 ⟨_, _, rfl⟩ (S12 li ci ai ids hli b2 hci hcim p2.2 _ _ _ _ _ _ _ _ _ _ _ _ _ _ _ _ _ _ _ _ _ _ _ _ _ _ _ _ _ _ _ _ _ _ _ _ _ _ _ _ _ _ _ _ _ _ _ _ _ _ _ _ _ _ _ _ _ _ _ _ _ _ _ _ _ _ _ _ _ _ _ _ _ _ _ _ _ _ _ _ _ _ _ _ _ _ _ _ _ _ _ _ _ _ _ _ _ _ _ _ _ _ _ _ _ _ _ _ _ _ _ _ _ _ _ _ _ _ _ _ _ _ _ _ _ _ _ _ _ _ _ _ _ _ _ _ _ _ _ _ _ _ _ _ _ _ _ _ _ _ _ _ _ _ _ _ _ _ _ _ _ _ _ _ _ _ _ _ _ _ _ _ _ _ _ _ _ _ _ _ _ _ _ _ _ _ _ _ _ _ _ _ _ _ _ _ _ _ _ _ _ _ _ _ _ _ _ _ _ _ _ _ _ _ _ _ _ _ _ _ _ _ _ _ _ _ _ _ _ _ _ _ _ _ _ _ _ _ _ _ _ _ _ _ _ _ _ _ _ _ _ _ _ _ _ _ _ _ _ _ _ _ _ _ _ _ _ _ _ _ _ _ _ _ _ _ _ _ _ _ _ _ _ _ _ _ _ _ _ _ _ _ _ _ _ _ _ _ _ _ _ _ _ _ _ _ _ _ _ _ _ _ _ _ _ _ _ _ _ _ _ _ _ _ _ _ _ _ _ _ _ _ _ _ _ _ _ _ _ _ _ _ _ _ _ _ _ _ _ _ _ _ _ _ _ _ _ _ _ _ _ _ _ _ _ _ _ _ _ _ _ _ _ _ _ _ _ _ _ _ _ _ _ _ _ _ _ _ _ _ _ _ _ _ _ _ _ _ _ _ _ _ _ _ _ _ _ _ _ _ _ _ _ _ _ _ _ _ _ _ _ _ _ _ _ _ _ _ _ _ _ _ _ _ _ _ _ _ _ _ _ _ _ _ _ _ _ _ _ _ _ _ _ _ _ _ _ _ _ _ _ _ _ _ _ _ _ _ _ _ _ _ _ _ _ _ _ _ _ _ _ _ _ _ _ _ _ _ _ _ _ _ _ _ _ _ _ _ _ _ _ _ _ _ _ _ _ _ _ _ _ _ _ _ _ _ _ _ _ _ _ _ _ _ _ _ _ _ w5 (strs_rd (hid.kq hkW5) hli (fun _ _ => trivial)) ?_)
  intros
  refine step7 13 ⟨_, _, rfl⟩ (T13 (sumSz ids) _ w5 p2.2 ?_)
  intros
  obtain ⟨w6, hw6⟩ : ∃ w6, w6 = w5.alloc (.cells (madeCells #[.int .u8 0] (sumSz ids)) 5) := ⟨_, rfl⟩
  have ho6 : w6.ownsRow 0 5 1 (.slice (some ⟨w5.heap.size, 0, none⟩) 0 (sumSz ids)) 0 [] := by
    rw [hw6]; exact World.ownsRow_made w5 _ _ (Nat.zero_le _) (by have := p2.2; unfold maxLen; omega) (by rw [size_madeCells]; omega)
  have hk6 : Kq (· < w5.heap.size) w5 w6 := by rw [hw6]; exact (Kq.refl _ _).alloc (fun _ h => h) _
  have hs6 : w6.heap.size = w5.heap.size + 1 := by rw [hw6]; simp
  rw [← hw6]
  clear hw6
  refine step7 14 ⟨_, _, rfl⟩ (T14 li _ w6 b2 ?_)
  intros
  obtain ⟨w7, hw7⟩ : ∃ w7, w7 = w6.alloc (.cells (madeCells #[.int .u32 0] li) 24) := ⟨_, rfl⟩
  have hrw7 : Rw w7 w6.heap.size 24 li (fun _ => .int .u32 0) w7 := by rw [hw7]; exact Rw.made _ _ _ _
  have ho7 : Own (fun k => k < w5.heap.size ∨ k = w6.heap.size) 5 w7 (.slice (some ⟨w5.heap.size, 0, none⟩) 0 (sumSz ids)) (U8 []) := by
    refine ⟨by rw [hw7]; exact ho6.alloc _, fun k hk hq => ?_⟩
    simp [Value.ownBlock] at hk
    subst hk
    omega
  have hk7 : Kq (· < w6.heap.size) w6 w7 := by rw [hw7]; exact (Kq.refl _ _).alloc (fun _ h => h) _
  have hs7 : w7.heap.size = w6.heap.size + 1 := by rw [hw7]; simp
  rw [← hw7]
  clear hw7
  have hk57 : Kq (· < w5.heap.size) w5 w7 := hk6.trans (hk7.mono (fun k hk => by omega))
  have hkW7 : Kq (· < W.heap.size) W w7 := hkW5.trans (hk57.mono (fun k hk => by omega))
  refine step7 15 ⟨_, _, rfl⟩ (S15 (· < w5.heap.size) w7 w6.heap.size li ci ai ids _ hli b2 hci hcim p2.2 (fun k hk => by omega) (by omega) _ _ _ _ _ _ _ _ _ _ _ _ _ _ _ _ _ _ _ _ _ _ _ _ _ _ _ _ _ _ _ _ _ _ _ _ _ _ _ _ _ _ _ _ _ _ _ _ _ _ _ _ _ _ _ _ _ _ _ _ _ _ _ _ _ _ _ _ _ _ _ _ _ _ _ _ _ _ _ _ _ _ _ _ _ _ _ _ _ _ _ _ _ _ _ _ _ _ _ _ _ _ _ _ _ _ _ _ _ _ _ _ _ _ _ _ _ _ _ _ _ _ _ _ _ _ _ _ _ _ _ _ _ _ _ _ _ _ _ _ _ _ _ _ _ _ _ _ _ _ _ _ _ _ _ _ _ _ _ _ _ _ _ _ _ _ _ _ _ _ _ _ _ _ _ _ _ _ _ _ _ _ _ _ _ _ _ _ _ _ _ _ _ _ _ _ _ _ _ _ _ _ _ _ _ _ _ _ _ _ _ _ _ _ _ _ _ _ _ _ _ _ _ _ _ _ _ _ _ _ _ _ _ _ _ _ _ _ _ _ _ _ _ _ _ _ _ _ _ _ _ _ _ _ _ _ _ _ _ _ _ _ _ _ _ _ _ _ _ _ _ _ _ _ _ _ _ _ _ _ _ _ _ _ _ _ _ _ _ _ _ _ _ _ _ _ _ _ _ _ _ _ _ _ _ _ _ _ _ _ _ _ _ _ _ _ _ _ _ _ _ _ _ _ _ _ _ _ _ _ _ _ _ _ _ _ _ _ _ _ _ _ _ _ _ _ _ _ _ _ _ _ _ _ _ _ _ _ _ _ _ _ _ _ _ _ _ _ _ _ _ _ _ _ _ _ _ _ _ _ _ _ _ _ _ _ _ _ _ _ _ _ _ _ _ _ _ _ _ _ _ _ _ _ _ _ _ _ _ _ _ _ _ _ _ _ _ _ _ _ _ _ _ _ _ _ _ _ _ _ _ _ _ _ _ _ _ _ _ _ _ _ _ _ _ _ _ _ _ _ _ _ _ _ _ _ _ _ _ _ _ _ _ _ _ _ _ _ _ _ _ _ _ _ _ _ _ _ _ _ _ _ _ _ _ _ _ _ _ _ _ _ _ _ _ _ _ _ _ _ _ _ _ _ _ _ _ _ _ _ _ _ _ _ _ _ _ _ _ _ _ _ _ _ _ _ _ w7 (strs_rd (hid.kq hkW7) hli (fun b hb => by omega)) ⟨hrw7.row, Kq.refl _ _, ho7⟩ ?_)
  intros
  rename_i bv w8 hlay8
  have hk58 : Kq (· < w5.heap.size) w5 w8 := hk57.trans hlay8.kq
  have hs8 := hlay8.kq.size
  have hEB8 : w6.heap.size < w8.heap.size := by omega
  refine step7 16 ⟨_, _, rfl⟩ (T16 li _ w8 b2 ?_)
  intros
  obtain ⟨w9, hw9⟩ : ∃ w9, w9 = w8.alloc (.cells (madeCells #[.int .i64 0] li) 2) := ⟨_, rfl⟩
  have ho9 : Own (· < w8.heap.size) 2 w9 (.slice (some ⟨w8.heap.size, 0, none⟩) 0 li) [] := by
    refine ⟨by rw [hw9]; exact World.ownsRow_made w8 _ _ (Nat.zero_le _) (by unfold maxLen; omega) (by rw [size_madeCells]; omega), fun k hk hq => ?_⟩
    simp [Value.ownBlock] at hk
    subst hk
    omega
  have hk9 : Kq (· < w8.heap.size) w8 w9 := by rw [hw9]; exact (Kq.refl _ _).alloc (fun _ h => h) _
  have hs9 : w9.heap.size = w8.heap.size + 1 := by rw [hw9]; simp
  rw [← hw9]
  clear hw9
  have hkW8 : Kq (· < W.heap.size) W w8 := hkW5.trans (hk58.mono (fun k hk => by omega))
  have hsW8 := hkW8.size
  have hkW9 : Kq (· < W.heap.size) W w9 := hkW8.trans (hk9.mono (fun k hk => by omega))
  refine step7 17 ⟨_, _, rfl⟩ (S17 (· < w8.heap.size) w9 li cn cg an ag nodes given _ b2 hcn hcnm hcg hcgm (fun k hk => by omega) _ _ _ _ _ _ _ _ _ _ _ _ _ _ _ _ _ _ _ _ _ _ _ _ _ _ _ _ _ _ _ _ _ _ _ _ _ _ _ _ _ _ _ _ _ _ _ _ _ _ _ _ _ _ _ _ _ _ _ _ _ _ _ _ _ _ _ _ _ _ _ _ _ _ _ _ _ _ _ _ _ _ _ _ _ _ _ _ _ _ _ _ _ _ _ _ _ _ _ _ _ _ _ _ _ _ _ _ _ _ _ _ _ _ _ _ _ _ _ _ _ _ _ _ _ _ _ _ _ _ _ _ _ _ _ _ _ _ _ _ _ _ _ _ _ _ _ _ _ _ _ _ _ _ _ _ _ _ _ _ _ _ _ _ _ _ _ _ _ _ _ _ _ _ _ _ _ _ _ _ _ _ _ _ _ _ _ _ _ _ _ _ _ _ _ _ _ _ _ _ _ _ _ _ _ _ _ _ _ _ _ _ _ _ _ _ _ _ _ _ _ _ _ _ _ _ _ _ _ _ _ _ _ _ _ _ _ _ _ _ _ _ _ _ _ _ _ _ _ _ _ _ _ _ _ _ _ _ _ _ _ _ _ _ _ _ _ _ _ _ _ _ _ _ _ _ _ _ _ _ _ _ _ _ _ _ _ _ _ _ _ _ _ _ _ _ _ _ _ _ _ _ _ _ _ _ _ _ _ _ _ _ _ _ _ _ _ _ _ _ _ _ _ _ _ _ _ _ _ _ _ _ _ _ _ _ _ _ _ _ _ _ _ _ _ _ _ _ _ _ _ _ _ _ _ _ _ _ _ _ _ _ _ _ _ _ _ _ _ _ _ _ _ _ _ _ _ _ _ _ _ _ _ _ _ _ _ _ _ _ _ _ _ _ _ _ _ _ _ _ _ _ _ _ _ _ _ _ _ _ _ _ _ _ _ _ _ _ _ _ _ _ _ _ _ _ _ _ _ _ _ _ _ _ _ _ _ _ _ _ _ _ _ _ _ _ _ _ _ _ _ _ _ _ _ _ _ _ _ _ _ _ _ _ _ _ _ _ _ _ _ _ _ _ _ _ _ _ _ _ _ _ _ _ _ _ _ _ _ _ _ _ _ _ _ _ _ _ _ _ _ _ _ _ _ _ _ _ _ _ _ _ _ _ _ _ _ _ _ _ _ _ _ _ _ _ _ w9 (ints_rd (hnod.kq hkW9) hln (fun b hb => by omega)) (bools_rd (hgiv.kq hkW9) hlg (fun b hb => by omega)) (Kq.refl _ _) ho9 ?_)
  intros
  rename_i vv w10 l hk10 hown10 hdist
  obtain ⟨av, VB, cap, g, hvv, hlc, hcapm, hnil, hrow⟩ := own_row hown10
  subst hvv
  have hm4 : l.length ≤ 4096 := by have := hdist.len; omega
  refine step7 18 ⟨_, _, rfl⟩ (S18 w10 VB l.length cap av (fun t => l.getD t 0) g hm4 hlc hcapm (fun h => (hrow h).1) _ _ _ _ _ _ _ _ _ _ _ _ _ _ _ _ _ _ _ _ _ _ _ _ _ _ _ _ _ _ _ _ _ _ _ _ _ _ _ _ _ _ _ _ _ _ _ _ _ _ _ _ _ _ _ _ _ _ _ _ _ _ _ _ _ _ _ _ _ _ _ _ _ _ _ _ _ _ _ _ _ _ _ _ _ _ _ _ _ _ _ _ _ _ _ _ _ _ _ _ _ _ _ _ _ _ _ _ _ _ _ _ _ _ _ _ _ _ _ _ _ _ _ _ _ _ _ _ _ _ _ _ _ _ _ _ _ _ _ _ _ _ _ _ _ _ _ _ _ _ _ _ _ _ _ _ _ _ _ _ _ _ _ _ _ _ _ _ _ _ _ _ _ _ _ _ _ _ _ _ _ _ _ _ _ _ _ _ _ _ _ _ _ _ _ _ _ _ _ _ _ _ _ _ _ _ _ _ _ _ _ _ _ _ _ _ _ _ _ _ _ _ _ _ _ _ _ _ _ _ _ _ _ _ _ _ _ _ _ _ _ _ _ _ _ _ _ _ _ _ _ _ _ _ _ _ _ _ _ _ _ _ _ _ _ _ _ _ _ _ _ _ _ _ _ _ _ _ _ _ _ _ _ _ _ _ _ _ _ _ _ _ _ _ _ _ _ _ _ _ _ _ _ _ _ _ _ _ _ _ _ _ _ _ _ _ _ _ _ _ _ _ _ _ _ _ _ _ _ _ _ _ _ _ _ _ _ _ _ _ _ _ _ _ _ _ _ _ _ _ _ _ _ _ _ _ _ _ _ _ _ _ _ _ _ _ _ _ _ _ _ _ _ _ _ _ _ _ _ _ _ _ _ _ _ _ _ _ _ _ _ _ _ _ _ _ _ _ _ _ _ _ _ _ _ _ _ _ _ _ _ _ _ _ _ _ _ _ _ _ _ _ _ _ _ _ _ _ _ _ _ _ _ _ _ _ _ _ _ _ _ _ _ _ _ _ _ _ _ _ _ _ _ _ _ _ _ _ _ _ _ _ _ _ _ _ _ _ _ _ _ _ _ _ _ _ _ _ _ _ _ _ _ _ _ _ _ _ _ _ _ _ _ _ _ _ _ _ _ _ _ _ _ _ _ _ _ _ _ _ _ _ _ _ _ _ _ _ _ _ _ _ _ _ _ _ _ _ _ _ w10 (fun h => (hrow h).2.2) ?_)
  intros
  rename_i w11 P hz hrw11 hP hS
  have hk11 : Kq (· < w8.heap.size) w10 w11 ∧ w10.heap.size ≤ w11.heap.size := by
    by_cases h0 : 0 < l.length
    · have h1 := hrw11 h0
      have hs10 := hk10.size
      exact ⟨h1.kq.mono (fun k hk => ⟨fun e => (hrow h0).2.1 (e ▸ hk), by omega⟩), h1.kq.size⟩
    · rw [hz (by omega)]; exact ⟨Kq.refl _ _, Nat.le_refl _⟩
  have hk8_11 : Kq (· < w8.heap.size) w8 w11 := hk9.trans (hk10.trans hk11.1)
  have hs10 := hk10.size
  have hs11 := hk11.2
  have hkW11 : Kq (· < W.heap.size) W w11 := hkW8.trans (hk8_11.mono (fun k hk => by omega))
  have hL := listIs_of hli rfl hprm hstrict hdist hP hS
  refine step7 19 ⟨_, _, rfl⟩ (T19 (.slice ax N cx) (fun v w' => Ass (fun k => w11.heap.size ≤ k) w' v xs ∧ Kq (· < w11.heap.size) w11 w') _ w11 ?_ ?_)
  · refine (toAss_any (· < W.heap.size) _ xs w11 (fun k hk => by omega) (hx.kq hkW11) (by omega) (fun i a hi => by have := p1.2 i a hi; omega)).mono ?_
    rintro e w' ⟨v, rfl, h1, h2⟩
    exact ⟨v, rfl, h1, h2⟩
  intros
  rename_i iv w12 hP12
  obtain ⟨hass12, hk12⟩ := hP12
  have hs12 := hk12.size
  refine step7 20 ⟨_, _, rfl⟩ (T20 _ w12 ?_)
  obtain ⟨ab, cb, hbf⟩ := hlay8.own.form
  have hk8_12 : Kq (· < w8.heap.size) w8 w12 := hk8_11.trans (hk12.mono (fun k hk => by omega))
  have hk5_12 : Kq (· < w5.heap.size) w5 w12 := hk58.trans (hk8_12.mono (fun k hk => by omega))
  have hkW12 : Kq (· < W.heap.size) W w12 := hkW8.trans (hk8_12.mono (fun k hk => by omega))
  have hready : Ready (· < w12.heap.size) w12 w1.heap.size w6.heap.size VB li l.length cap av bv iv ids xs D (fun t => l.getD (P t) 0) := by
    refine ⟨fun i hi => (hk5_12.cell (p := ⟨w1.heap.size, i, none⟩) hRB5).trans (hrw5.cell hi), fun i hi => (hk8_12.cell (p := ⟨w6.heap.size, i, none⟩) hEB8).trans ?_, fun h0 => ⟨(hrow h0).1, ?_, fun i hi => ?_⟩, by omega, by omega, ?_, hass12.mono (fun k hk _ => hk)⟩
    · rw [cell_of_row w8 w6.heap.size i _ 24 _ hlay8.row]
      unfold endOf
      simpa using rowF_get (f := fun j => .int .u32 (sumSz (ids.take (j + 1)) : Nat)) hi
    · have := (hrw11 h0).lt; show VB < _; omega
    · have hv := (hrw11 h0).lt
      rw [(hk12.cell (p := ⟨VB, i, none⟩) hv), (hrw11 h0).cell (k := i) (by omega), vRow_lt hi]
    · exact ((hlay8.own.rd (Q' := (· < w8.heap.size)) (fun k _ h => h)).kq hk8_12).mono (fun k hk _ => hk)
  subst hbf
  refine step7 21 ⟨_, _, rfl⟩ (S21 (· < w12.heap.size) w1.heap.size w6.heap.size VB li l.length cap _ cb cn cg av ab an ag iv ids nodes given xs D (fun t => l.getD (P t) 0) res hL hli b2 p2.2 hm4 hlc hcapm hcn hcnm hcg hcgm hne (fun i a hi => by have := p1.2 i a hi; omega) p1.1 _ w12 (fun _ h => h) hready (ints_rd (hnod.kq hkW12) hln (fun b hb => by omega)) (bools_rd (hgiv.kq hkW12) hlg (fun b hb => by omega)) ?_)
  intros
  rename_i r w13 hgot
  obtain ⟨Q', gs, q1, q2, hown13, hk13, hgs⟩ := hgot
  obtain ⟨ga, gc, hrf⟩ := hown13.form
  subst hrf
  obtain ⟨_, hgots, hGc, hgcm⟩ := hown13.gots
  have hs13 := hk13.size
  have hkW13 : Kq (· < W.heap.size) W w13 := hkW12.trans (hk13.mono (fun k hk => by omega))
  have hgs' := hgs.mono (Q' := (· < w13.heap.size)) (fun k hk _ => hk)
  have hvals13 : Rd (· < w13.heap.size) w13 (.slice av l.length cap) ((valL (fun t => l.getD (P t) 0) l.length).map (.int .i64)) := by
    by_cases h0 : 0 < l.length
    · exact ((hready.vals h0 hlc hcapm).kq hk13).mono (fun k hk _ => by omega)
    · have e0 : l.length = 0 := by omega
      rw [e0]
      exact ⟨av, cap, rfl, Nat.zero_le _, hcapm, hnil, fun h => by simp [valL] at h⟩
  refine step7 22 ⟨_, _, rfl⟩ (T22 _ w13 ?_)
  refine step7 23 ⟨_, _, rfl⟩ (S23 N li l.length cap gs.length gc cx ci cn cg ax ai an ag av ga res ids nodes given D (fun t => l.getD (P t) 0) xs gs hL hli b2 hm4 hlc hcapm hci hcim hcn hcnm hcg hcgm hN (by have := p1.1; omega) p1.2 rfl hGc hgcm 0 rfl _ w13 ((hx.kq hkW13).mono (fun k hk _ => hk)) (strs_rd (hid.kq hkW13) hli (fun b hb => by omega)) (ints_rd (hnod.kq hkW13) hln (fun b hb => by omega)) (bools_rd (hgiv.kq hkW13) hlg (fun b hb => by omega)) hvals13 hgots hgs' ?_)
  intros
  rename_i w14 hk14
  rw [← hgs.1]
  refine T24 gs.length gc ga _ w14 ?_
  intros
  exact hR _ w14 rfl (hkW13.trans (hk14.mono (fun k hk => by omega)))
end Go.Proofs.Qxb6609296a
