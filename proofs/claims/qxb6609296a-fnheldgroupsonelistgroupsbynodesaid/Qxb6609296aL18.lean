import Derived.Test.Qxb6609296aL17
namespace Go.Proofs.Qxb6609296a
open Go.RowKit Srt

def vLt (V : Nat → Int) (x y : Nat) : Prop := V x < V y
theorem vLt_ord (V : Nat → Int) : Ord (vLt V) := ⟨fun x y h k => by unfold vLt at *; omega, fun x y z h k => by unfold vLt at *; omega⟩
/-- The row of values, permuted by D; behind the first m cells whatever. -/
def vRow (V : Nat → Int) (g : Nat → Value) (m : Nat) (D : Nat → Nat) : Nat → Value := fun t => if t < m then .int .i64 (V (D t)) else g t
theorem vRow_lt {V : Nat → Int} {g : Nat → Value} {m : Nat} {D : Nat → Nat} {t : Nat} (h : t < m) : vRow V g m D t = .int .i64 (V (D t)) := by simp [vRow, h]
theorem vRow_upd {V : Nat → Int} {g : Nat → Value} {m : Nat} {D E : Nat → Nat} {k y : Nat} (hk : k < m) (h : ∀ t, (if t = k then y else D t) = E t) (t : Nat) : upd (vRow V g m D) k (.int .i64 (V y)) t = vRow V g m E t := by
  unfold upd vRow
  have := h t
  by_cases c : t = k
  · subst c
    rw [if_pos rfl] at this ⊢
    rw [if_pos hk, this]
  · rw [if_neg c] at this ⊢
    rw [this]

set_option maxRecDepth 100000 in
set_option maxHeartbeats 8000000 in
theorem S18 (W : World) (VB m cap : Nat) (av : Option Addr) (V : Nat → Int) (g : Nat → Value) (hm : m ≤ 4096) (hc : m ≤ cap) (hcm : cap ≤ maxLen) (hav : 0 < m → av = some ⟨VB, 0, none⟩) (Qx : Exit → Act → World → Prop) (v0 v1 v2 v3 v4 v5 v6 v7 v8 v9 v10 v11 v12 v13 v14 v15 v16 v17 v18 v19 v20 v21 v22 v23 v24 v25 v27 v28 v29 v30 v31 v32 v33 v34 v35 v36 v37 v38 v39 v40 v41 v42 v43 v44 v45 v46 v47 v48 v49 v50 v51 v52 v53 v54 v55 v56 v57 v58 v59 v60 v61 v62 v63 v64 v65 v66 v67 v68 v69 v70 v71 v72 v73 v74 v75 v76 v77 v78 v79 v80 v81 v82 v83 v84 v85 v86 v87 v88 v89 v90 v91 v92 v93 v94 v95 v96 v97 v98 v99 v100 v101 v102 v103 v104 v105 v106 v107 v108 v109 v110 v111 v112 v113 v114 v115 v116 v117 v118 v119 v120 v121 v122 v123 v124 v125 v126 v127 v128 v129 v130 v131 v132 v133 v134 v135 v136 v137 v138 v139 v140 v141 v142 v143 v144 v145 v146 v147 v148 v149 v150 v151 v152 v153 v154 v155 v156 v157 v158 v159 v160 v161 v162 v163 v164 v165 v166 v167 v168 v169 v170 v171 v172 v173 v174 v175 v176 v177 v178 v179 v180 v181 v182 v183 v184 v185 v186 v187 v188 v189 v190 v191 v192 v193 v194 v195 v196 v197 v198 v199 v200 v201 v202 v203 v204 v205 v206 v207 v208 v209 v210 v211 v212 v213 v214 v215 v216 v217 v218 v219 v220 v221 v222 v223 v224 v225 v226 v227 v228 v229 v230 v231 v232 v233 v234 v235 v236 v237 v238 v239 v240 v241 v242 v243 v244 v245 v246 v247 v248 v249 v250 v251 v252 v253 v254 v255 v256 v257 v258 v259 v260 v261 v262 v263 v264 v265 v266 v267 v268 v269 v270 v271 v272 v273 v274 v275 v276 v277 v278 v279 v280 v281 v282 v283 v284 v285 v286 v287 v288 v289 v290 v291 v292 v293 v294 v295 v296 v297 v298 v299 v300 v301 v302 v303 v304 v305 v306 v307 v308 v309 v310 v311 v312 v313 v314 v315 v316 v317 v318 v319 v320 v321 v322 v323 v324 v325 v326 v327 v328 v329 v330 v331 v332 v333 v334 v335 v336 v337 v338 v339 v340 v341 v342 v343 v344 v345 v346 v347 v348 v349 v350 v351 v352 v353 v354 v355 v356 v357 v358 v359 v360 v361 v362 v363 v364 v365 v366 v367 v368 v369 v370 v371 v372 v373 v374 v375 v376 v377 v378 v379 v380 v381 v382 v383 v384 v385 v386 v387 v388 v389 v390 v391 v392 v393 v394 v395 v396 v397 v398 v399 v400 v401 v402 v403 v404 v405 v406 v407 v408 v409 v410 v411 v412 v413 v414 v415 v416 v417 v418 v419 v420 v421 v422 v423 v424 v425 v426 v427 v428 v429 v430 v431 v432 v433 v434 v435 v436 v437 v438 v439 v440 v441 v442 v443 v444 v445 v446 v447 v448 v449 v450 v451 v452 v453 v454 v455 v456 v457 v458 v459 v460 v461 v462 v463 v464 v465 v466 v467 v468 v469 v470 v471 v472 v473 v474 v475 v476 v477 v478 v479 v480 v481 v482 v483 v484 v485 v486 v487 v488 v489 v490 v491 v492 v493 v494 v495 v496 v497 v498 v499 v500 v501 v502 v503 v504 v505 v506 v507 v508 v509 v510 v511 v512 v513 v514 v515 v516 v517 v518 v519 v520 v521 v522 v523 v524 v525 v526 v527 v528 v529 : Value) (w : World) (h : 0 < m → Rw W VB 2 cap (vRow V g m id) w)
    (hK : ∀ (u28 u29 u30 u267 u268 u269 u270 u271 u272 u273 u274 u275 u276 u277 u278 u279 u280 u281 u282 u283 u284 u285 u286 u287 u288 u289 u290 u291 u292 u293 u294 u295 u296 u297 u298 u299 u300 u301 u302 : Value) (w' : World) (D : Nat → Nat), (m = 0 → w' = w) → (0 < m → Rw W VB 2 cap (vRow V g m D) w') → Prm 0 m id D → SortedTo (vLt V) D m → Qx .normal { tmps := #[v0, v1, v2, v3, v4, v5, v6, v7, v8, v9, v10, v11, v12, v13, v14, v15, v16, v17, v18, v19, v20, v21, v22, v23, v24, v25, .slice av m cap, v27, u28, u29, u30, v31, v32, v33, v34, v35, v36, v37, v38, v39, v40, v41, v42, v43, v44, v45, v46, v47, v48, v49, v50, v51, v52, v53, v54, v55, v56, v57, v58, v59, v60, v61, v62, v63, v64, v65, v66, v67, v68, v69, v70, v71, v72, v73, v74, v75, v76, v77, v78, v79, v80, v81, v82, v83, v84, v85, v86, v87, v88, v89, v90, v91, v92, v93, v94, v95, v96, v97, v98, v99, v100, v101, v102, v103, v104, v105, v106, v107, v108, v109, v110, v111, v112, v113, v114, v115, v116, v117, v118, v119, v120, v121, v122, v123, v124, v125, v126, v127, v128, v129, v130, v131, v132, v133, v134, v135, v136, v137, v138, v139, v140, v141, v142, v143, v144, v145, v146, v147, v148, v149, v150, v151, v152, v153, v154, v155, v156, v157, v158, v159, v160, v161, v162, v163, v164, v165, v166, v167, v168, v169, v170, v171, v172, v173, v174, v175, v176, v177, v178, v179, v180, v181, v182, v183, v184, v185, v186, v187, v188, v189, v190, v191, v192, v193, v194, v195, v196, v197, v198, v199, v200, v201, v202, v203, v204, v205, v206, v207, v208, v209, v210, v211, v212, v213, v214, v215, v216, v217, v218, v219, v220, v221, v222, v223, v224, v225, v226, v227, v228, v229, v230, v231, v232, v233, v234, v235, v236, v237, v238, v239, v240, v241, v242, v243, v244, v245, v246, v247, v248, v249, v250, v251, v252, v253, v254, v255, v256, v257, v258, v259, v260, v261, v262, v263, v264, v265, v266, u267, u268, u269, u270, u271, u272, u273, u274, u275, u276, u277, u278, u279, u280, u281, u282, u283, u284, u285, u286, u287, u288, u289, u290, u291, u292, u293, u294, u295, u296, u297, u298, u299, u300, u301, u302, v303, v304, v305, v306, v307, v308, v309, v310, v311, v312, v313, v314, v315, v316, v317, v318, v319, v320, v321, v322, v323, v324, v325, v326, v327, v328, v329, v330, v331, v332, v333, v334, v335, v336, v337, v338, v339, v340, v341, v342, v343, v344, v345, v346, v347, v348, v349, v350, v351, v352, v353, v354, v355, v356, v357, v358, v359, v360, v361, v362, v363, v364, v365, v366, v367, v368, v369, v370, v371, v372, v373, v374, v375, v376, v377, v378, v379, v380, v381, v382, v383, v384, v385, v386, v387, v388, v389, v390, v391, v392, v393, v394, v395, v396, v397, v398, v399, v400, v401, v402, v403, v404, v405, v406, v407, v408, v409, v410, v411, v412, v413, v414, v415, v416, v417, v418, v419, v420, v421, v422, v423, v424, v425, v426, v427, v428, v429, v430, v431, v432, v433, v434, v435, v436, v437, v438, v439, v440, v441, v442, v443, v444, v445, v446, v447, v448, v449, v450, v451, v452, v453, v454, v455, v456, v457, v458, v459, v460, v461, v462, v463, v464, v465, v466, v467, v468, v469, v470, v471, v472, v473, v474, v475, v476, v477, v478, v479, v480, v481, v482, v483, v484, v485, v486, v487, v488, v489, v490, v491, v492, v493, v494, v495, v496, v497, v498, v499, v500, v501, v502, v503, v504, v505, v506, v507, v508, v509, v510, v511, v512, v513, v514, v515, v516, v517, v518, v519, v520, v521, v522, v523, v524, v525, v526, v527, v528, v529], defers := [] } w') :
    (headS (dropS 18 body7)).wp Try.prog Qx { tmps := #[v0, v1, v2, v3, v4, v5, v6, v7, v8, v9, v10, v11, v12, v13, v14, v15, v16, v17, v18, v19, v20, v21, v22, v23, v24, v25, .slice av m cap, v27, v28, v29, v30, v31, v32, v33, v34, v35, v36, v37, v38, v39, v40, v41, v42, v43, v44, v45, v46, v47, v48, v49, v50, v51, v52, v53, v54, v55, v56, v57, v58, v59, v60, v61, v62, v63, v64, v65, v66, v67, v68, v69, v70, v71, v72, v73, v74, v75, v76, v77, v78, v79, v80, v81, v82, v83, v84, v85, v86, v87, v88, v89, v90, v91, v92, v93, v94, v95, v96, v97, v98, v99, v100, v101, v102, v103, v104, v105, v106, v107, v108, v109, v110, v111, v112, v113, v114, v115, v116, v117, v118, v119, v120, v121, v122, v123, v124, v125, v126, v127, v128, v129, v130, v131, v132, v133, v134, v135, v136, v137, v138, v139, v140, v141, v142, v143, v144, v145, v146, v147, v148, v149, v150, v151, v152, v153, v154, v155, v156, v157, v158, v159, v160, v161, v162, v163, v164, v165, v166, v167, v168, v169, v170, v171, v172, v173, v174, v175, v176, v177, v178, v179, v180, v181, v182, v183, v184, v185, v186, v187, v188, v189, v190, v191, v192, v193, v194, v195, v196, v197, v198, v199, v200, v201, v202, v203, v204, v205, v206, v207, v208, v209, v210, v211, v212, v213, v214, v215, v216, v217, v218, v219, v220, v221, v222, v223, v224, v225, v226, v227, v228, v229, v230, v231, v232, v233, v234, v235, v236, v237, v238, v239, v240, v241, v242, v243, v244, v245, v246, v247, v248, v249, v250, v251, v252, v253, v254, v255, v256, v257, v258, v259, v260, v261, v262, v263, v264, v265, v266, v267, v268, v269, v270, v271, v272, v273, v274, v275, v276, v277, v278, v279, v280, v281, v282, v283, v284, v285, v286, v287, v288, v289, v290, v291, v292, v293, v294, v295, v296, v297, v298, v299, v300, v301, v302, v303, v304, v305, v306, v307, v308, v309, v310, v311, v312, v313, v314, v315, v316, v317, v318, v319, v320, v321, v322, v323, v324, v325, v326, v327, v328, v329, v330, v331, v332, v333, v334, v335, v336, v337, v338, v339, v340, v341, v342, v343, v344, v345, v346, v347, v348, v349, v350, v351, v352, v353, v354, v355, v356, v357, v358, v359, v360, v361, v362, v363, v364, v365, v366, v367, v368, v369, v370, v371, v372, v373, v374, v375, v376, v377, v378, v379, v380, v381, v382, v383, v384, v385, v386, v387, v388, v389, v390, v391, v392, v393, v394, v395, v396, v397, v398, v399, v400, v401, v402, v403, v404, v405, v406, v407, v408, v409, v410, v411, v412, v413, v414, v415, v416, v417, v418, v419, v420, v421, v422, v423, v424, v425, v426, v427, v428, v429, v430, v431, v432, v433, v434, v435, v436, v437, v438, v439, v440, v441, v442, v443, v444, v445, v446, v447, v448, v449, v450, v451, v452, v453, v454, v455, v456, v457, v458, v459, v460, v461, v462, v463, v464, v465, v466, v467, v468, v469, v470, v471, v472, v473, v474, v475, v476, v477, v478, v479, v480, v481, v482, v483, v484, v485, v486, v487, v488, v489, v490, v491, v492, v493, v494, v495, v496, v497, v498, v499, v500, v501, v502, v503, v504, v505, v506, v507, v508, v509, v510, v511, v512, v513, v514, v515, v516, v517, v518, v519, v520, v521, v522, v523, v524, v525, v526, v527, v528, v529], defers := [] } w := by
  have H : Hid (0 < m → Rw W VB 2 cap (vRow V g m id) w) := h
  have HA : Hid (0 < m → av = some ⟨VB, 0, none⟩) := hav
  have HK := (show Hid _ from hK)
  unfold maxLen at hcm
  clear h hK hav
  unfold body7 Try.f7
  simp only [Option.getD_some, dropS, headS]
  go_wp2_with fail
  go_loopw [28] (fun p x => ∃ (i : Nat) (D : Nat → Nat), 1 ≤ i ∧ (i ≤ m ∨ i = 1) ∧ p = .int .i64 i ∧ (m = 0 → x = w) ∧ (0 < m → Rw W VB 2 cap (vRow V g m D) x) ∧ Prm 0 i id D ∧ SortedTo (vLt V) D i) (fun p _ => m - (intOf p).toNat)
  case atStart => exact ⟨1, id, Nat.le_refl _, .inr rfl, rfl, fun _ => rfl, H.out, Prm.refl _ _ _, fun a b h1 h2 => by omega⟩
  case round =>
    obtain ⟨i, D, hi1, hi2, rfl, hz, hst, hprm, hsrt⟩ := hrel
    have HZ0 : Hid ((m = 0 → wr = w) ∧ (0 < m → Rw W VB 2 cap (vRow V g m D) wr)) := ⟨hz, hst⟩
    have HS : Hid (Prm 0 i id D ∧ SortedTo (vLt V) D i) := ⟨hprm, hsrt⟩
    clear hst hprm hsrt H hz
    by_cases hlt : i < m
    · have hlt' : (i : Int) < (m : Int) := by omega
      have hav := HA.out (by omega)
      subst hav
      have hst := HZ0.out.2 (by omega)
      have c1 := hst.cell (k := i) (by omega)
      rw [vRow_lt hlt] at c1
      obtain ⟨p, hp⟩ : ∃ p, p = V (D i) := ⟨_, rfl⟩
      rw [← hp] at c1
      have HP : Hid (p = V (D i)) := hp
      have HST : Hid (Rw W VB 2 cap (vRow V g m D) wr) := hst
      clear hp hst
      obtain ⟨wo, hwo⟩ : ∃ wo : World, wo = wr := ⟨_, rfl⟩
      subst hwo
      go_wp2_with fail
      go_loopw [30] (fun q x => ∃ k : Nat, k ≤ i ∧ q = .int .i64 k ∧ Rw W VB 2 cap (vRow V g m (hole k i D)) x ∧ ∀ t, k ≤ t → t < i → vLt V (D i) (D t)) (fun q _ => (intOf q).toNat)
      case atStart => exact ⟨i, Nat.le_refl _, rfl, by rw [hole_start]; exact HST.out, fun t h1 h2 => by omega⟩
      case round =>
        obtain ⟨k, hk, rfl, hst, hgt⟩ := hrel
        have HT : Hid (∀ t, k ≤ t → t < i → vLt V (D i) (D t)) := hgt
        have HR : Hid (Rw W VB 2 cap (vRow V g m (hole k i D)) wr) := hst
        clear hst hgt c1
        have l2 : (k : Int) < (m : Int) := by omega
        have c2 := HR.out.cell (k := k) (by omega)
        have f2 := HR.out.free k
        have hleave : (k = 0 ∨ ¬ vLt V (D i) (D (k - 1))) → Hid (∃ E, Rw W VB 2 cap (vRow V g m E) (wr.setCell ⟨VB, k, none⟩ (.int .i64 p)) ∧ Prm 0 (i + 1) id E ∧ SortedTo (vLt V) E (i + 1)) := by
          intro hle
          refine ⟨rot k i (i + 1) D, ?_, (HS.out.1.mono (Nat.le_refl _) (by omega)).trans ((Prm.rot hk (by omega) D).mono (Nat.zero_le _) (Nat.le_refl _)), ins_sorted (vLt_ord V) HS.out.2 hk HT.out hle⟩
          have h5 := HR.out.set (i := k) (u := .int .i64 p)
          rw [HP.out] at h5 ⊢
          exact h5.ext (fun t _ => vRow_upd (by omega) (fun t => hole_done hk D t) t)
        by_cases hk0 : 0 < k
        · have hd : decide (0 < k) = true := decide_eq_true hk0
          have k1 : IntKind.i64.wrap ((k : Int) - 1) = (k : Int) - 1 := by rw [IntKind.wrap_i64]; omega
          have z1 : (0 : Int) ≤ (k : Int) - 1 := by omega
          have l1 : (k : Int) - 1 < (m : Int) := by omega
          have t1 : ((k : Int) - 1).toNat = k - 1 := by omega
          have c1 := HR.out.cell (k := k - 1) (by omega)
          rw [vRow_lt (by omega), hole_low (show k - 1 < k by omega)] at c1
          obtain ⟨y, hy⟩ : ∃ y, y = V (D (k - 1)) := ⟨_, rfl⟩
          rw [← hy] at c1
          have HY : Hid (y = V (D (k - 1))) := hy
          by_cases hpy : p < y
          · have HL : Hid (vLt V (D i) (D (k - 1))) := by show V _ < V _; rw [← HP.out, ← hy]; exact hpy
            clear hy hleave
            go_wp2_with fail
            go_roundw
            case rel =>
              refine ⟨k - 1, by omega, by go_num, ?_, fun t h1 h2 => ?_⟩
              · have h5 := HR.out.set (i := k) (u := .int .i64 y)
                rw [HY.out] at h5 ⊢
                exact h5.ext (fun t _ => vRow_upd (by omega) (fun t => hole_next hk0 hk D t) t)
              · by_cases e : t = k - 1
                · rw [e]; exact HL.out
                · exact HT.out t (by omega) h2
            case measure => simp [intOf]; omega
          · have H9 := hleave (.inr (by show ¬ V _ < V _; rw [← HP.out, ← hy]; exact hpy))
            clear hy hleave
            go_wp2_with fail
            go_roundw
            case rel =>
              obtain ⟨E, e1, e2, e3⟩ := H9.out
              exact ⟨i + 1, E, by omega, .inl (by omega), by go_num, (fun h => by omega), (fun _ => e1), e2, e3⟩
            case measure => simp [intOf]; omega
        · have H9 := hleave (.inl (by omega))
          obtain rfl : k = 0 := by omega
          clear hleave
          go_wp2_with fail
          go_roundw
          case rel =>
            obtain ⟨E, e1, e2, e3⟩ := H9.out
            exact ⟨i + 1, E, by omega, .inl (by omega), by go_num, (fun h => by omega), (fun _ => e1), e2, e3⟩
          case measure => simp [intOf]; omega
    · have H9 : Hid (∃ E, (m = 0 → wr = w) ∧ (0 < m → Rw W VB 2 cap (vRow V g m E) wr) ∧ Prm 0 m id E ∧ SortedTo (vLt V) E m) := by
        rcases hi2 with hi2 | hi2
        · obtain rfl : i = m := by omega
          exact ⟨D, HZ0.out.1, HZ0.out.2, HS.out⟩
        · by_cases e : m = 1
          · subst e; subst hi2; exact ⟨D, HZ0.out.1, HZ0.out.2, HS.out⟩
          · have hn0 : m = 0 := by omega
            exact ⟨id, HZ0.out.1, (fun h => by omega), by rw [hn0]; exact Prm.refl _ _ _, fun a b h1 h2 => by omega⟩
      have hge : ¬ (i : Int) < (m : Int) := by omega
      clear HS hi2
      go_wp2_with fail
      obtain ⟨E, h1, h2, h3, h4⟩ := H9.out
      exact HK.out _ _ _ _ _ _ _ _ _ _ _ _ _ _ _ _ _ _ _ _ _ _ _ _ _ _ _ _ _ _ _ _ _ _ _ _ _ _ _ wr E h1 h2 h3 h4
end Go.Proofs.Qxb6609296a
