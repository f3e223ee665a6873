import Derived.Test.Qxb6609296aL12
namespace Go.Proofs.Qxb6609296a
open Go.RowKit Srt

def U8 (bs : List UInt8) : List Value := bs.map fun c => .int .u8 (c.toNat : Nat)
def catB (ids : List ByteArray) : List UInt8 := ids.flatMap fun s => s.data.toList
theorem U8_len (bs : List UInt8) : (U8 bs).length = bs.length := by simp [U8]
theorem catB_len (ids : List ByteArray) : (catB ids).length = sumSz ids := by
  induction ids with
  | nil => rfl
  | cons a l ih =>
    have h1 : catB (a :: l) = a.data.toList ++ catB l := by unfold catB; rw [List.flatMap_cons]
    have h2 : sumSz (a :: l) = a.size + sumSz l := by unfold sumSz; rw [List.map_cons, List.sum_cons]
    rw [h1, h2, List.length_append, ih, Array.length_toList]
    rfl
theorem catB_snoc {ids : List ByteArray} {k : Nat} (h : k < ids.length) : catB (ids.take (k + 1)) = catB (ids.take k) ++ (ids.getD k ByteArray.empty).data.toList := by
  have h1 : ids.take (k + 1) = ids.take k ++ [ids.getD k ByteArray.empty] := by rw [List.take_succ_eq_append_getElem h]; simp [h]
  rw [h1]
  unfold catB
  rw [List.flatMap_append]
  simp only [List.flatMap_cons, List.flatMap_nil, List.append_nil]
theorem sumSz_le {ids : List ByteArray} (k : Nat) : sumSz (ids.take k) ≤ sumSz ids := by
  have h3 : sumSz ids = sumSz (ids.take k) + sumSz (ids.drop k) := by rw [← sumSz_append, List.take_append_drop]
  omega

theorem Own.alloc {Q : Nat → Prop} {e : TypeId} {w : World} {v : Value} {xs : List Value} (h : Own Q e w v xs) (o : Obj) : Own Q e (w.alloc o) v xs := ⟨h.1.alloc o, h.2⟩
theorem Own.drewN {Q : Nat → Prop} {e : TypeId} {w : World} {v : Value} {xs : List Value} (h : Own Q e w v xs) (n : Nat) : Own Q e (w.drewN n) v xs := h
theorem Own.form {Q : Nat → Prop} {e : TypeId} {w : World} {v : Value} {xs : List Value} (h : Own Q e w v xs) : ∃ a c, v = .slice a xs.length c := by
  rcases h.1.2 with ⟨hv, h0⟩ | ⟨g, cap, cur, hv, _⟩
  · exact ⟨_, _, by rw [hv, h0]⟩
  · exact ⟨_, _, hv⟩
theorem rd_one {w : World} {g : Nat} {u : Value} {t : TypeId} {f : Nat × Nat} (h : w.heap[g]? = some (.cells #[u] t f)) : Rd (fun _ => True) w (.slice (some ⟨g, 0, none⟩) 1 1) [u] := by
  refine ⟨_, 1, rfl, Nat.le_refl _, by unfold maxLen; omega, (fun h => by cases h), fun _ => ⟨g, 0, rfl, trivial, fun i x hi => ?_⟩⟩
  rw [cell_of_row w g _ _ t f h]
  simpa using hi

/-- What the loop that lays the IDs end to end has in memory. -/
structure Lay (Q : Nat → Prop) (W : World) (EB n : Nat) (f : Nat → Value) (bv : Value) (bs : List UInt8) (x : World) : Prop where
  row : x.heap[EB]? = some (.cells (rowF n f).toArray 24 (0, 0))
  kq : Kq Q W x
  own : Own (fun k => Q k ∨ k = EB) 5 x bv (U8 bs)
theorem Lay.set {Q : Nat → Prop} {W : World} {EB n : Nat} {f : Nat → Value} {bv : Value} {bs : List UInt8} {x : World} (h : Lay Q W EB n f bv bs x) (hE : ¬ Q EB) (i : Nat) (u : Value) : Lay Q W EB n (upd f i u) bv bs (x.setCell ⟨EB, i, none⟩ u) := by
  have h1 : Rw x EB 24 n f x := ⟨h.row, Kq.refl _ _⟩
  have k : Kq (fun k => k ≠ EB) x (x.setCell ⟨EB, i, none⟩ u) := (Kq.refl _ _).setCell (by simp) _
  exact ⟨h1.set.row, h.kq.trans (k.mono (fun j hj e => hE (e ▸ hj))), h.own.kq k (fun j hj e => h.own.2 j hj (.inr e))⟩

set_option maxRecDepth 100000 in
set_option maxHeartbeats 8000000 in
theorem S15 (Q : Nat → Prop) (W : World) (EB n ci : Nat) (ai : Option Addr) (ids : List ByteArray) (bv : Value) (hl : n = ids.length) (hn : n ≤ 4096) (hc : n ≤ ci) (hcm : ci ≤ maxLen) (hs : sumSz ids ≤ 1048576) (hQ : ∀ k, Q k → k < W.heap.size) (hE : ¬ Q EB) (Qx : Exit → Act → World → Prop) (v0 v1 v3 v4 v5 v6 v7 v8 v9 v10 v11 v13 v14 v15 v16 v17 v18 v19 v20 v23 v24 v25 v26 v27 v28 v29 v30 v31 v32 v33 v34 v35 v36 v37 v38 v39 v40 v41 v42 v43 v44 v45 v46 v47 v48 v49 v50 v51 v52 v53 v54 v55 v56 v57 v58 v59 v60 v61 v62 v63 v64 v65 v66 v67 v68 v69 v70 v71 v72 v73 v74 v75 v76 v77 v78 v79 v80 v81 v82 v83 v84 v85 v86 v87 v88 v89 v90 v91 v92 v93 v94 v95 v96 v97 v98 v99 v100 v101 v102 v103 v104 v105 v106 v107 v108 v109 v110 v111 v112 v113 v114 v115 v116 v117 v118 v119 v120 v121 v122 v123 v124 v125 v126 v127 v128 v129 v130 v131 v132 v133 v134 v135 v136 v137 v138 v139 v140 v141 v142 v143 v144 v145 v146 v147 v148 v149 v150 v151 v152 v153 v154 v155 v156 v157 v158 v159 v160 v161 v162 v163 v164 v165 v166 v167 v168 v169 v170 v171 v172 v173 v174 v175 v176 v177 v178 v179 v180 v181 v182 v183 v184 v185 v186 v187 v188 v189 v190 v191 v192 v193 v194 v195 v196 v197 v198 v199 v200 v201 v202 v203 v204 v205 v206 v207 v208 v209 v210 v211 v212 v213 v214 v215 v216 v217 v218 v219 v220 v221 v222 v223 v224 v225 v226 v227 v228 v229 v230 v231 v232 v233 v234 v235 v236 v237 v238 v239 v240 v241 v242 v243 v244 v245 v246 v247 v248 v249 v250 v251 v252 v253 v254 v255 v256 v257 v258 v259 v260 v261 v262 v263 v264 v265 v266 v267 v268 v269 v270 v271 v272 v273 v274 v275 v276 v277 v278 v279 v280 v281 v282 v283 v284 v285 v286 v287 v288 v289 v290 v291 v292 v293 v294 v295 v296 v297 v298 v299 v300 v301 v302 v303 v304 v305 v306 v307 v308 v309 v310 v311 v312 v313 v314 v315 v316 v317 v318 v319 v320 v321 v322 v323 v324 v325 v326 v327 v328 v329 v330 v331 v332 v333 v334 v335 v336 v337 v338 v339 v340 v341 v342 v343 v344 v345 v346 v347 v348 v349 v350 v351 v352 v353 v354 v355 v356 v357 v358 v359 v360 v361 v362 v363 v364 v365 v366 v367 v368 v369 v370 v371 v372 v373 v374 v375 v376 v377 v378 v379 v380 v381 v382 v383 v384 v385 v386 v387 v388 v389 v390 v391 v392 v393 v394 v395 v396 v397 v398 v399 v400 v401 v402 v403 v404 v405 v406 v407 v408 v409 v410 v411 v412 v413 v414 v415 v416 v417 v418 v419 v420 v421 v422 v423 v424 v425 v426 v427 v428 v429 v430 v431 v432 v433 v434 v435 v436 v437 v438 v439 v440 v441 v442 v443 v444 v445 v446 v447 v448 v449 v450 v451 v452 v453 v454 v455 v456 v457 v458 v459 v460 v461 v462 v463 v464 v465 v466 v467 v468 v469 v470 v471 v472 v473 v474 v475 v476 v477 v478 v479 v480 v481 v482 v483 v484 v485 v486 v487 v488 v489 v490 v491 v492 v493 v494 v495 v496 v497 v498 v499 v500 v501 v502 v503 v504 v505 v506 v507 v508 v509 v510 v511 v512 v513 v514 v515 v516 v517 v518 v519 v520 v521 v522 v523 v524 v525 v526 v527 v528 v529 : Value) (w : World)
    (hids : Strs W Q ai n ids) (h : Lay Q W EB n (fun _ => .int .u32 0) bv [] w)
    (hK : ∀ (u23 u24 u25 u213 u214 u215 u216 u217 u218 u219 u220 u221 u222 u223 u224 u225 u226 u227 u228 u229 u230 u231 u232 u233 u234 u235 u236 u237 u238 u239 bv' : Value) (w' : World), Lay Q W EB n (fun j => .int .u32 (sumSz (ids.take (j + 1)) : Nat)) bv' (catB ids) w' → Qx .normal { tmps := #[v0, v1, .slice ai n ci, v3, v4, v5, v6, v7, v8, v9, v10, v11, .int .i64 (n : Nat), v13, v14, v15, v16, v17, v18, v19, v20, bv', .slice (some ⟨EB, 0, none⟩) n n, u23, u24, u25, v26, v27, v28, v29, v30, v31, v32, v33, v34, v35, v36, v37, v38, v39, v40, v41, v42, v43, v44, v45, v46, v47, v48, v49, v50, v51, v52, v53, v54, v55, v56, v57, v58, v59, v60, v61, v62, v63, v64, v65, v66, v67, v68, v69, v70, v71, v72, v73, v74, v75, v76, v77, v78, v79, v80, v81, v82, v83, v84, v85, v86, v87, v88, v89, v90, v91, v92, v93, v94, v95, v96, v97, v98, v99, v100, v101, v102, v103, v104, v105, v106, v107, v108, v109, v110, v111, v112, v113, v114, v115, v116, v117, v118, v119, v120, v121, v122, v123, v124, v125, v126, v127, v128, v129, v130, v131, v132, v133, v134, v135, v136, v137, v138, v139, v140, v141, v142, v143, v144, v145, v146, v147, v148, v149, v150, v151, v152, v153, v154, v155, v156, v157, v158, v159, v160, v161, v162, v163, v164, v165, v166, v167, v168, v169, v170, v171, v172, v173, v174, v175, v176, v177, v178, v179, v180, v181, v182, v183, v184, v185, v186, v187, v188, v189, v190, v191, v192, v193, v194, v195, v196, v197, v198, v199, v200, v201, v202, v203, v204, v205, v206, v207, v208, v209, v210, v211, v212, u213, u214, u215, u216, u217, u218, u219, u220, u221, u222, u223, u224, u225, u226, u227, u228, u229, u230, u231, u232, u233, u234, u235, u236, u237, u238, u239, v240, v241, v242, v243, v244, v245, v246, v247, v248, v249, v250, v251, v252, v253, v254, v255, v256, v257, v258, v259, v260, v261, v262, v263, v264, v265, v266, v267, v268, v269, v270, v271, v272, v273, v274, v275, v276, v277, v278, v279, v280, v281, v282, v283, v284, v285, v286, v287, v288, v289, v290, v291, v292, v293, v294, v295, v296, v297, v298, v299, v300, v301, v302, v303, v304, v305, v306, v307, v308, v309, v310, v311, v312, v313, v314, v315, v316, v317, v318, v319, v320, v321, v322, v323, v324, v325, v326, v327, v328, v329, v330, v331, v332, v333, v334, v335, v336, v337, v338, v339, v340, v341, v342, v343, v344, v345, v346, v347, v348, v349, v350, v351, v352, v353, v354, v355, v356, v357, v358, v359, v360, v361, v362, v363, v364, v365, v366, v367, v368, v369, v370, v371, v372, v373, v374, v375, v376, v377, v378, v379, v380, v381, v382, v383, v384, v385, v386, v387, v388, v389, v390, v391, v392, v393, v394, v395, v396, v397, v398, v399, v400, v401, v402, v403, v404, v405, v406, v407, v408, v409, v410, v411, v412, v413, v414, v415, v416, v417, v418, v419, v420, v421, v422, v423, v424, v425, v426, v427, v428, v429, v430, v431, v432, v433, v434, v435, v436, v437, v438, v439, v440, v441, v442, v443, v444, v445, v446, v447, v448, v449, v450, v451, v452, v453, v454, v455, v456, v457, v458, v459, v460, v461, v462, v463, v464, v465, v466, v467, v468, v469, v470, v471, v472, v473, v474, v475, v476, v477, v478, v479, v480, v481, v482, v483, v484, v485, v486, v487, v488, v489, v490, v491, v492, v493, v494, v495, v496, v497, v498, v499, v500, v501, v502, v503, v504, v505, v506, v507, v508, v509, v510, v511, v512, v513, v514, v515, v516, v517, v518, v519, v520, v521, v522, v523, v524, v525, v526, v527, v528, v529], defers := [] } w') :
    (headS (dropS 15 body7)).wp Try.prog Qx { tmps := #[v0, v1, .slice ai n ci, v3, v4, v5, v6, v7, v8, v9, v10, v11, .int .i64 (n : Nat), v13, v14, v15, v16, v17, v18, v19, v20, bv, .slice (some ⟨EB, 0, none⟩) n n, v23, v24, v25, v26, v27, v28, v29, v30, v31, v32, v33, v34, v35, v36, v37, v38, v39, v40, v41, v42, v43, v44, v45, v46, v47, v48, v49, v50, v51, v52, v53, v54, v55, v56, v57, v58, v59, v60, v61, v62, v63, v64, v65, v66, v67, v68, v69, v70, v71, v72, v73, v74, v75, v76, v77, v78, v79, v80, v81, v82, v83, v84, v85, v86, v87, v88, v89, v90, v91, v92, v93, v94, v95, v96, v97, v98, v99, v100, v101, v102, v103, v104, v105, v106, v107, v108, v109, v110, v111, v112, v113, v114, v115, v116, v117, v118, v119, v120, v121, v122, v123, v124, v125, v126, v127, v128, v129, v130, v131, v132, v133, v134, v135, v136, v137, v138, v139, v140, v141, v142, v143, v144, v145, v146, v147, v148, v149, v150, v151, v152, v153, v154, v155, v156, v157, v158, v159, v160, v161, v162, v163, v164, v165, v166, v167, v168, v169, v170, v171, v172, v173, v174, v175, v176, v177, v178, v179, v180, v181, v182, v183, v184, v185, v186, v187, v188, v189, v190, v191, v192, v193, v194, v195, v196, v197, v198, v199, v200, v201, v202, v203, v204, v205, v206, v207, v208, v209, v210, v211, v212, v213, v214, v215, v216, v217, v218, v219, v220, v221, v222, v223, v224, v225, v226, v227, v228, v229, v230, v231, v232, v233, v234, v235, v236, v237, v238, v239, v240, v241, v242, v243, v244, v245, v246, v247, v248, v249, v250, v251, v252, v253, v254, v255, v256, v257, v258, v259, v260, v261, v262, v263, v264, v265, v266, v267, v268, v269, v270, v271, v272, v273, v274, v275, v276, v277, v278, v279, v280, v281, v282, v283, v284, v285, v286, v287, v288, v289, v290, v291, v292, v293, v294, v295, v296, v297, v298, v299, v300, v301, v302, v303, v304, v305, v306, v307, v308, v309, v310, v311, v312, v313, v314, v315, v316, v317, v318, v319, v320, v321, v322, v323, v324, v325, v326, v327, v328, v329, v330, v331, v332, v333, v334, v335, v336, v337, v338, v339, v340, v341, v342, v343, v344, v345, v346, v347, v348, v349, v350, v351, v352, v353, v354, v355, v356, v357, v358, v359, v360, v361, v362, v363, v364, v365, v366, v367, v368, v369, v370, v371, v372, v373, v374, v375, v376, v377, v378, v379, v380, v381, v382, v383, v384, v385, v386, v387, v388, v389, v390, v391, v392, v393, v394, v395, v396, v397, v398, v399, v400, v401, v402, v403, v404, v405, v406, v407, v408, v409, v410, v411, v412, v413, v414, v415, v416, v417, v418, v419, v420, v421, v422, v423, v424, v425, v426, v427, v428, v429, v430, v431, v432, v433, v434, v435, v436, v437, v438, v439, v440, v441, v442, v443, v444, v445, v446, v447, v448, v449, v450, v451, v452, v453, v454, v455, v456, v457, v458, v459, v460, v461, v462, v463, v464, v465, v466, v467, v468, v469, v470, v471, v472, v473, v474, v475, v476, v477, v478, v479, v480, v481, v482, v483, v484, v485, v486, v487, v488, v489, v490, v491, v492, v493, v494, v495, v496, v497, v498, v499, v500, v501, v502, v503, v504, v505, v506, v507, v508, v509, v510, v511, v512, v513, v514, v515, v516, v517, v518, v519, v520, v521, v522, v523, v524, v525, v526, v527, v528, v529], defers := [] } w := by
  have HI : Hid (Strs W Q ai n ids) := hids
  have HK := (show Hid _ from hK)
  have HL : Hid (n = ids.length ∧ sumSz ids ≤ 1048576) := ⟨hl, hs⟩
  have HQ : Hid ((∀ k, Q k → k < W.heap.size) ∧ ¬ Q EB) := ⟨hQ, hE⟩
  have H0 : Hid (Lay Q W EB n (fun _ => .int .u32 0) bv [] w) := h
  obtain ⟨i5, hi5, hz5, hs5, hb5⟩ := info_parts Try.info5
  unfold maxLen at hcm
  clear hK hids hl hs hQ hE h
  unfold body7 Try.f7
  simp only [Option.getD_some, dropS, headS]
  go_wp2_with fail
  go_loopw [21, 23] (fun r p x => ∃ (j : Nat) (f : Nat → Value), j ≤ n ∧ p = .int .i64 j ∧ Lay Q W EB n f r (catB (ids.take j)) x ∧ (∀ t, t < j → f t = .int .u32 (sumSz (ids.take (t + 1)) : Nat))) (fun _ p _ => n - (intOf p).toNat)
  case atStart => exact ⟨0, _, Nat.zero_le _, rfl, by simpa [catB] using H0.out, fun t ht => by omega⟩
  case round =>
    obtain ⟨j, f, hj, rfl, hlay, hlo⟩ := hrel
    have HY : Hid (Lay Q W EB n f u21 (catB (ids.take j)) wr ∧ (∀ t, t < j → f t = .int .u32 (sumSz (ids.take (t + 1)) : Nat))) := ⟨hlay, hlo⟩
    clear hlay hlo H0
    by_cases hlt : j < n
    · have hlt' : (j : Int) < (n : Int) := by omega
      obtain ⟨ib, io, rfl, hibQ, hcs⟩ := HI.out (by omega)
      have c1 := (HY.out.1.kq.cell (p := ⟨ib, io + j, none⟩) hibQ).trans (hcs j hlt)
      obtain ⟨s, hs⟩ : ∃ s, s = ids.getD j ByteArray.empty := ⟨_, rfl⟩
      rw [← hs] at c1
      have HS : Hid (s = ids.getD j ByteArray.empty) := hs
      have hst := sumSz_take (L := ids) (k := j) (by have := HL.out.1; omega)
      rw [← hs] at hst
      have hsz : sumSz (ids.take j) + s.size ≤ 1048576 := by have := sumSz_le (ids := ids) (j + 1); have := HL.out.2; omega
      clear hcs hs hibQ
      obtain ⟨wo, hwo⟩ : ∃ wo : World, wo = wr := ⟨_, rfl⟩
      subst hwo
      go_wp2_with fail
      go_loopw [21, 25] (fun r p x => ∃ (k : Nat), k ≤ s.size ∧ p = .int .i64 k ∧ Lay Q W EB n f r (catB (ids.take j) ++ s.data.toList.take k) x) (fun _ p _ => s.size - (intOf p).toNat)
      case atStart => exact ⟨0, Nat.zero_le _, rfl, by simpa using HY.out.1⟩
      case round =>
        obtain ⟨k, hk, rfl, hlay⟩ := hrel
        have HZ : Hid (Lay Q W EB n f u21 (catB (ids.take j) ++ s.data.toList.take k) wr) := hlay
        clear hlay
        by_cases hlt2 : k < s.size
        · have hlt2' : (k : Int) < (s.size : Int) := by omega
          have HLen : Hid ((catB (ids.take j) ++ s.data.toList.take k).length ≤ 1048576) := by
            show _ ≤ _
            rw [List.length_append, catB_len, List.length_take]; omega
          go_wp2_with (at_builtin; refine wpList_append_q _ rfl (.tmp 228) (.tmp 232) 40 rfl 5 i5 (.int .u8 0) 1 Try.underlying40 hi5 hz5 hs5 hb5 rfl (fun k => Q k ∨ k = EB) ?hq u21 _ rfl (HZ.out.own.alloc _) (fun _ => True) _ [_] rfl (rd_one (heap_alloc_new _ _)) ?h1 ?h63 ?hby ?_)
          case hq => exact fun x hx => hx.elim (fun h => by have h1 := HZ.out.kq.size; have := HQ.out.1 x h; simp; omega) (fun h => by have := (Array.getElem?_eq_some_iff.1 HZ.out.row).1; simp; omega)
          case h1 => intro u hu; simp at hu; subst hu; rfl
          case h63 => have := HLen.out; rw [U8_len]; simp only [List.length_cons, List.length_nil, maxLen]; omega
          case hby => have := HLen.out; rw [U8_len]; simp only [List.length_cons, List.length_nil]; omega
          intro v' w3 ho hk3 _
          have HN : Hid (Lay Q W EB n f v' (catB (ids.take j) ++ s.data.toList.take (k + 1)) w3) := by
            have hEl : EB < wr.heap.size := (Array.getElem?_eq_some_iff.1 HZ.out.row).1
            have ka : Kq (fun b => b < wr.heap.size) wr (wr.alloc (Obj.cells #[Value.int IntKind.u8 ((s[k].toNat : Nat) : Int)] 5)) := (Kq.refl _ _).alloc (fun _ h => h) _
            refine ⟨?_, ?_, ?_⟩
            · rw [hk3.block EB (.inr rfl), ka.block EB hEl]; exact HZ.out.row
            · exact HZ.out.kq.trans ((ka.mono (fun b hb => by have := HQ.out.1 b hb; have := HZ.out.kq.size; omega)).trans (hk3.mono (fun b hb => .inl hb)))
            · have e : U8 (catB (ids.take j) ++ s.data.toList.take (k + 1)) = U8 (catB (ids.take j) ++ s.data.toList.take k) ++ [Value.int IntKind.u8 ((s[k].toNat : Nat) : Int)] := by
                have hk' : k < s.data.toList.length := by rw [Array.length_toList]; exact hlt2
                rw [List.take_succ_eq_append_getElem hk', ← List.append_assoc]
                simp only [U8, List.map_append, List.map_cons, List.map_nil]
                rfl
              rw [e]; exact ho
          clear ho hk3
          go_wp2_with fail
          go_roundw
          case rel => exact ⟨k + 1, by omega, by go_num, HN.out⟩
          case measure => simp [intOf]; omega
        · obtain rfl : k = s.size := by omega
          clear hlt2
          have hfull : s.data.toList.take s.size = s.data.toList := by
            have : s.size = s.data.toList.length := by rw [Array.length_toList]; rfl
            rw [this, List.take_length]
          have HW : Hid (Lay Q W EB n f u21 (catB (ids.take (j + 1))) wr) := by
            have := HZ.out
            rw [hfull] at this
            rw [catB_snoc (by have := HL.out.1; omega), ← HS.out]; exact this
          obtain ⟨ab, cb, hbf⟩ := HW.out.own.form
          rw [U8_len, catB_len] at hbf
          obtain ⟨T, hT⟩ : ∃ T, T = sumSz (ids.take (j + 1)) := ⟨_, rfl⟩
          rw [← hT] at hbf
          have HT : Hid (T = sumSz (ids.take (j + 1))) := hT
          have hTl : T ≤ 1048576 := by rw [hT]; have := sumSz_le (ids := ids) (j + 1); have := HL.out.2; omega
          have c2 : wr.cell? ⟨EB, j, none⟩ = some (f j) := cell_in HW.out.row (by simpa using rowF_get hlt)
          have f2 : wr.frozen? ⟨EB, j, none⟩ = false := by simp [World.frozen?, HW.out.row]
          have HU : Hid (u21 = .slice ab T cb) := hbf
          subst hbf
          clear HZ hfull hT hst
          go_wp2_with fail
          go_roundw
          case rel =>
            refine ⟨j + 1, upd f j (.int .u32 (T : Nat)), by omega, by go_num, HW.out.set HQ.out.2 j _, fun t ht => ?_⟩
            by_cases e : t = j
            · rw [e, upd_same, HT.out]
            · rw [upd_other e]; exact HY.out.2 t (by omega)
          case measure => simp [intOf]; omega
    · obtain rfl : j = n := by omega
      clear hlt
      go_wp2_with fail
      have h9 := HY.out.1
      have h10 : ids.take j = ids := by rw [HL.out.1]; exact List.take_length
      rw [h10] at h9
      refine HK.out _ _ _ _ _ _ _ _ _ _ _ _ _ _ _ _ _ _ _ _ _ _ _ _ _ _ _ _ _ _ u21 wr ⟨?_, h9.kq, h9.own⟩
      rw [← rowF_ext HY.out.2]; exact h9.row
end Go.Proofs.Qxb6609296a
