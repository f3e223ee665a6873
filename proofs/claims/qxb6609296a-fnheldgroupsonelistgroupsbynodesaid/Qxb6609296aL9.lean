import Derived.Test.Qxb6609296aPhase
import Derived.Test.Qxb6609296aInsM
import Derived.Deep.DeepCutAuto
namespace Go.Proofs.Qxb6609296a
open Go.RowKit Srt

/-- The strings that the walk reads. -/
def Strs (W : World) (R : Nat → Prop) (ai : Option Addr) (n : Nat) (ids : List ByteArray) : Prop :=
  0 < n → ∃ b off, ai = some ⟨b, off, none⟩ ∧ R b ∧ ∀ i, i < n → W.cell? ⟨b, off + i, none⟩ = some (.string (ids.getD i ByteArray.empty))
def idLt (ids : List ByteArray) (x y : Nat) : Prop := slt (ids.getD x ByteArray.empty) (ids.getD y ByteArray.empty)
theorem slt_trans' {a b c : ByteArray} (h1 : ¬ slt b a) (h2 : ¬ slt c b) : ¬ slt c a := by
  intro h3
  by_cases e : b = a
  · subst e; exact h2 h3
  · exact h2 (h3.trans (slt.of_not h1 e))
theorem idLt_ord (ids : List ByteArray) : Ord (idLt ids) := ⟨fun _ _ h k => slt.irrefl _ (h.trans k), fun _ _ _ h1 h2 => slt_trans' h1 h2⟩

set_option maxRecDepth 100000 in
set_option maxHeartbeats 8000000 in
theorem S9 (W : World) (RB n ci : Nat) (ai : Option Addr) (ids : List ByteArray) (hn : n ≤ 4096) (hc : n ≤ ci) (hcm : ci ≤ maxLen) (hids : Strs W (fun b => b ≠ RB) ai n ids) (Qx : Exit → Act → World → Prop) (v0 v1 v3 v4 v5 v6 v7 v8 v9 v10 v11 v14 v15 v16 v17 v18 v19 v20 v21 v22 v23 v24 v25 v26 v27 v28 v29 v30 v31 v32 v33 v34 v35 v36 v37 v38 v39 v40 v41 v42 v43 v44 v45 v46 v47 v48 v49 v50 v51 v52 v53 v54 v55 v56 v57 v58 v59 v60 v61 v62 v63 v64 v65 v66 v67 v68 v69 v70 v71 v72 v73 v74 v75 v76 v77 v78 v79 v80 v81 v82 v83 v84 v85 v86 v87 v88 v89 v90 v91 v92 v93 v94 v95 v96 v97 v98 v99 v100 v101 v102 v103 v104 v105 v106 v107 v108 v109 v110 v111 v112 v113 v114 v115 v116 v117 v118 v119 v120 v121 v122 v123 v124 v125 v126 v127 v128 v129 v130 v131 v132 v133 v134 v135 v136 v137 v138 v139 v140 v141 v142 v143 v144 v145 v146 v147 v148 v149 v150 v151 v152 v153 v154 v155 v156 v157 v158 v159 v160 v161 v162 v163 v164 v165 v166 v167 v168 v169 v170 v171 v172 v173 v174 v175 v176 v177 v178 v179 v180 v181 v182 v183 v184 v185 v186 v187 v188 v189 v190 v191 v192 v193 v194 v195 v196 v197 v198 v199 v200 v201 v202 v203 v204 v205 v206 v207 v208 v209 v210 v211 v212 v213 v214 v215 v216 v217 v218 v219 v220 v221 v222 v223 v224 v225 v226 v227 v228 v229 v230 v231 v232 v233 v234 v235 v236 v237 v238 v239 v240 v241 v242 v243 v244 v245 v246 v247 v248 v249 v250 v251 v252 v253 v254 v255 v256 v257 v258 v259 v260 v261 v262 v263 v264 v265 v266 v267 v268 v269 v270 v271 v272 v273 v274 v275 v276 v277 v278 v279 v280 v281 v282 v283 v284 v285 v286 v287 v288 v289 v290 v291 v292 v293 v294 v295 v296 v297 v298 v299 v300 v301 v302 v303 v304 v305 v306 v307 v308 v309 v310 v311 v312 v313 v314 v315 v316 v317 v318 v319 v320 v321 v322 v323 v324 v325 v326 v327 v328 v329 v330 v331 v332 v333 v334 v335 v336 v337 v338 v339 v340 v341 v342 v343 v344 v345 v346 v347 v348 v349 v350 v351 v352 v353 v354 v355 v356 v357 v358 v359 v360 v361 v362 v363 v364 v365 v366 v367 v368 v369 v370 v371 v372 v373 v374 v375 v376 v377 v378 v379 v380 v381 v382 v383 v384 v385 v386 v387 v388 v389 v390 v391 v392 v393 v394 v395 v396 v397 v398 v399 v400 v401 v402 v403 v404 v405 v406 v407 v408 v409 v410 v411 v412 v413 v414 v415 v416 v417 v418 v419 v420 v421 v422 v423 v424 v425 v426 v427 v428 v429 v430 v431 v432 v433 v434 v435 v436 v437 v438 v439 v440 v441 v442 v443 v444 v445 v446 v447 v448 v449 v450 v451 v452 v453 v454 v455 v456 v457 v458 v459 v460 v461 v462 v463 v464 v465 v466 v467 v468 v469 v470 v471 v472 v473 v474 v475 v476 v477 v478 v479 v480 v481 v482 v483 v484 v485 v486 v487 v488 v489 v490 v491 v492 v493 v494 v495 v496 v497 v498 v499 v500 v501 v502 v503 v504 v505 v506 v507 v508 v509 v510 v511 v512 v513 v514 v515 v516 v517 v518 v519 v520 v521 v522 v523 v524 v525 v526 v527 v528 v529 : Value) (w : World) (h : Rw W RB 24 n (fun i => .int .u32 i) w)
    (hK : ∀ (u15 u16 u17 u135 u136 u137 u138 u139 u140 u141 u142 u143 u144 u145 u146 u147 u148 u149 u150 u151 u152 u153 u154 u155 u156 u157 u158 u159 u160 u161 u162 u163 u164 u165 u166 u167 u168 u169 u170 u171 u172 u173 u174 u175 : Value) (w' : World) (D : Nat → Nat), Rw W RB 24 n (fun i => .int .u32 (D i)) w' → Prm 0 n id D → SortedTo (idLt ids) D n → Qx .normal { tmps := #[v0, v1, .slice ai n ci, v3, v4, v5, v6, v7, v8, v9, v10, v11, .int .i64 (n : Nat), .slice (some ⟨RB, 0, none⟩) n n, v14, u15, u16, u17, v18, v19, v20, v21, v22, v23, v24, v25, v26, v27, v28, v29, v30, v31, v32, v33, v34, v35, v36, v37, v38, v39, v40, v41, v42, v43, v44, v45, v46, v47, v48, v49, v50, v51, v52, v53, v54, v55, v56, v57, v58, v59, v60, v61, v62, v63, v64, v65, v66, v67, v68, v69, v70, v71, v72, v73, v74, v75, v76, v77, v78, v79, v80, v81, v82, v83, v84, v85, v86, v87, v88, v89, v90, v91, v92, v93, v94, v95, v96, v97, v98, v99, v100, v101, v102, v103, v104, v105, v106, v107, v108, v109, v110, v111, v112, v113, v114, v115, v116, v117, v118, v119, v120, v121, v122, v123, v124, v125, v126, v127, v128, v129, v130, v131, v132, v133, v134, u135, u136, u137, u138, u139, u140, u141, u142, u143, u144, u145, u146, u147, u148, u149, u150, u151, u152, u153, u154, u155, u156, u157, u158, u159, u160, u161, u162, u163, u164, u165, u166, u167, u168, u169, u170, u171, u172, u173, u174, u175, v176, v177, v178, v179, v180, v181, v182, v183, v184, v185, v186, v187, v188, v189, v190, v191, v192, v193, v194, v195, v196, v197, v198, v199, v200, v201, v202, v203, v204, v205, v206, v207, v208, v209, v210, v211, v212, v213, v214, v215, v216, v217, v218, v219, v220, v221, v222, v223, v224, v225, v226, v227, v228, v229, v230, v231, v232, v233, v234, v235, v236, v237, v238, v239, v240, v241, v242, v243, v244, v245, v246, v247, v248, v249, v250, v251, v252, v253, v254, v255, v256, v257, v258, v259, v260, v261, v262, v263, v264, v265, v266, v267, v268, v269, v270, v271, v272, v273, v274, v275, v276, v277, v278, v279, v280, v281, v282, v283, v284, v285, v286, v287, v288, v289, v290, v291, v292, v293, v294, v295, v296, v297, v298, v299, v300, v301, v302, v303, v304, v305, v306, v307, v308, v309, v310, v311, v312, v313, v314, v315, v316, v317, v318, v319, v320, v321, v322, v323, v324, v325, v326, v327, v328, v329, v330, v331, v332, v333, v334, v335, v336, v337, v338, v339, v340, v341, v342, v343, v344, v345, v346, v347, v348, v349, v350, v351, v352, v353, v354, v355, v356, v357, v358, v359, v360, v361, v362, v363, v364, v365, v366, v367, v368, v369, v370, v371, v372, v373, v374, v375, v376, v377, v378, v379, v380, v381, v382, v383, v384, v385, v386, v387, v388, v389, v390, v391, v392, v393, v394, v395, v396, v397, v398, v399, v400, v401, v402, v403, v404, v405, v406, v407, v408, v409, v410, v411, v412, v413, v414, v415, v416, v417, v418, v419, v420, v421, v422, v423, v424, v425, v426, v427, v428, v429, v430, v431, v432, v433, v434, v435, v436, v437, v438, v439, v440, v441, v442, v443, v444, v445, v446, v447, v448, v449, v450, v451, v452, v453, v454, v455, v456, v457, v458, v459, v460, v461, v462, v463, v464, v465, v466, v467, v468, v469, v470, v471, v472, v473, v474, v475, v476, v477, v478, v479, v480, v481, v482, v483, v484, v485, v486, v487, v488, v489, v490, v491, v492, v493, v494, v495, v496, v497, v498, v499, v500, v501, v502, v503, v504, v505, v506, v507, v508, v509, v510, v511, v512, v513, v514, v515, v516, v517, v518, v519, v520, v521, v522, v523, v524, v525, v526, v527, v528, v529], defers := [] } w') :
    (headS (dropS 9 body7)).wp Try.prog Qx { tmps := #[v0, v1, .slice ai n ci, v3, v4, v5, v6, v7, v8, v9, v10, v11, .int .i64 (n : Nat), .slice (some ⟨RB, 0, none⟩) n n, v14, v15, v16, v17, v18, v19, v20, v21, v22, v23, v24, v25, v26, v27, v28, v29, v30, v31, v32, v33, v34, v35, v36, v37, v38, v39, v40, v41, v42, v43, v44, v45, v46, v47, v48, v49, v50, v51, v52, v53, v54, v55, v56, v57, v58, v59, v60, v61, v62, v63, v64, v65, v66, v67, v68, v69, v70, v71, v72, v73, v74, v75, v76, v77, v78, v79, v80, v81, v82, v83, v84, v85, v86, v87, v88, v89, v90, v91, v92, v93, v94, v95, v96, v97, v98, v99, v100, v101, v102, v103, v104, v105, v106, v107, v108, v109, v110, v111, v112, v113, v114, v115, v116, v117, v118, v119, v120, v121, v122, v123, v124, v125, v126, v127, v128, v129, v130, v131, v132, v133, v134, v135, v136, v137, v138, v139, v140, v141, v142, v143, v144, v145, v146, v147, v148, v149, v150, v151, v152, v153, v154, v155, v156, v157, v158, v159, v160, v161, v162, v163, v164, v165, v166, v167, v168, v169, v170, v171, v172, v173, v174, v175, v176, v177, v178, v179, v180, v181, v182, v183, v184, v185, v186, v187, v188, v189, v190, v191, v192, v193, v194, v195, v196, v197, v198, v199, v200, v201, v202, v203, v204, v205, v206, v207, v208, v209, v210, v211, v212, v213, v214, v215, v216, v217, v218, v219, v220, v221, v222, v223, v224, v225, v226, v227, v228, v229, v230, v231, v232, v233, v234, v235, v236, v237, v238, v239, v240, v241, v242, v243, v244, v245, v246, v247, v248, v249, v250, v251, v252, v253, v254, v255, v256, v257, v258, v259, v260, v261, v262, v263, v264, v265, v266, v267, v268, v269, v270, v271, v272, v273, v274, v275, v276, v277, v278, v279, v280, v281, v282, v283, v284, v285, v286, v287, v288, v289, v290, v291, v292, v293, v294, v295, v296, v297, v298, v299, v300, v301, v302, v303, v304, v305, v306, v307, v308, v309, v310, v311, v312, v313, v314, v315, v316, v317, v318, v319, v320, v321, v322, v323, v324, v325, v326, v327, v328, v329, v330, v331, v332, v333, v334, v335, v336, v337, v338, v339, v340, v341, v342, v343, v344, v345, v346, v347, v348, v349, v350, v351, v352, v353, v354, v355, v356, v357, v358, v359, v360, v361, v362, v363, v364, v365, v366, v367, v368, v369, v370, v371, v372, v373, v374, v375, v376, v377, v378, v379, v380, v381, v382, v383, v384, v385, v386, v387, v388, v389, v390, v391, v392, v393, v394, v395, v396, v397, v398, v399, v400, v401, v402, v403, v404, v405, v406, v407, v408, v409, v410, v411, v412, v413, v414, v415, v416, v417, v418, v419, v420, v421, v422, v423, v424, v425, v426, v427, v428, v429, v430, v431, v432, v433, v434, v435, v436, v437, v438, v439, v440, v441, v442, v443, v444, v445, v446, v447, v448, v449, v450, v451, v452, v453, v454, v455, v456, v457, v458, v459, v460, v461, v462, v463, v464, v465, v466, v467, v468, v469, v470, v471, v472, v473, v474, v475, v476, v477, v478, v479, v480, v481, v482, v483, v484, v485, v486, v487, v488, v489, v490, v491, v492, v493, v494, v495, v496, v497, v498, v499, v500, v501, v502, v503, v504, v505, v506, v507, v508, v509, v510, v511, v512, v513, v514, v515, v516, v517, v518, v519, v520, v521, v522, v523, v524, v525, v526, v527, v528, v529], defers := [] } w := by
  have H : Hid (Rw W RB 24 n (fun i => .int .u32 i) w) := h
  have HI : Hid (Strs W (fun b => b ≠ RB) ai n ids) := hids
  have HK := (show Hid _ from hK)
  unfold maxLen at hcm
  clear h hK hids
  unfold body7 Try.f7
  simp only [Option.getD_some, dropS, headS]
  go_wp2_with fail
  go_loopw [15] (fun p x => ∃ (i : Nat) (D : Nat → Nat), 1 ≤ i ∧ (i ≤ n ∨ i = 1) ∧ p = .int .i64 i ∧ Rw W RB 24 n (fun i => .int .u32 (D i)) x ∧ Prm 0 i id D ∧ SortedTo (idLt ids) D i) (fun p _ => n - (intOf p).toNat)
  case atStart => exact ⟨1, id, Nat.le_refl _, .inr rfl, rfl, H.out, Prm.refl _ _ _, fun a b h1 h2 => by omega⟩
  case round =>
    obtain ⟨i, D, hi1, hi2, rfl, hst, hprm, hsrt⟩ := hrel
    have HS : Hid (Rw W RB 24 n (fun i => .int .u32 (D i)) wr ∧ Prm 0 i id D ∧ SortedTo (idLt ids) D i) := ⟨hst, hprm, hsrt⟩
    clear hst hprm hsrt H
    by_cases hlt : i < n
    · have hlt' : (i : Int) < (n : Int) := by omega
      obtain ⟨ib, io, rfl, hibR, hcs⟩ := HI.out (by omega)
      have c1 := HS.out.1.cell hlt
      obtain ⟨p, hp⟩ : ∃ p, p = D i := ⟨_, rfl⟩
      have hpi : p = i := by rw [hp, HS.out.2.1.out (.inr (Nat.le_refl _))]; rfl
      try simp only at c1
      rw [← hp] at c1
      have HP : Hid (p = D i) := hp
      have hpn : (p : Int) < (n : Int) := by omega
      clear hpi
      have HCS : Hid (ib ≠ RB ∧ ∀ i, i < n → W.cell? ⟨ib, io + i, none⟩ = some (.string (ids.getD i ByteArray.empty))) := ⟨hibR, hcs⟩
      clear hp hibR hcs
      obtain ⟨wo, hwo⟩ : ∃ wo : World, wo = wr := ⟨_, rfl⟩
      subst hwo
      go_wp2_with fail
      go_loopw [17] (fun q x => ∃ k : Nat, k ≤ i ∧ q = .int .i64 k ∧ Rw W RB 24 n (fun t => .int .u32 (hole k i D t)) x ∧ ∀ t, k ≤ t → t < i → idLt ids (D i) (D t)) (fun q _ => (intOf q).toNat)
      case atStart => exact ⟨i, Nat.le_refl _, rfl, by rw [hole_start]; exact HS.out.1, fun t h1 h2 => by omega⟩
      case round =>
        obtain ⟨k, hk, rfl, hst, hgt⟩ := hrel
        have HT : Hid (Rw W RB 24 n (fun t => .int .u32 (hole k i D t)) wr ∧ ∀ t, k ≤ t → t < i → idLt ids (D i) (D t)) := ⟨hst, hgt⟩
        clear hst hgt c1
        go_upto_region 25 with fail
        go_cut [161] from 145 to 171 (fun q wc => ∃ bb : Bool, q = .bool bb ∧ (bb = true → 0 < k ∧ idLt ids (D i) (D (k - 1))) ∧ (bb = false → k = 0 ∨ ¬ idLt ids (D i) (D (k - 1))) ∧ Rw W RB 24 n (fun t => .int .u32 (hole k i D t)) wc)
        case first =>
          by_cases hk0 : 0 < k
          · have hd : decide (0 < k) = true := decide_eq_true hk0
            have k1 : IntKind.i64.wrap ((k : Int) - 1) = (k : Int) - 1 := by rw [IntKind.wrap_i64]; omega
            have z1 : (0 : Int) ≤ (k : Int) - 1 := by omega
            have l1 : (k : Int) - 1 < (n : Int) := by omega
            have t1 : ((k : Int) - 1).toNat = k - 1 := by omega
            have c1 := HT.out.1.cell (k := k - 1) (by omega)
            simp only [hole_low (show k - 1 < k by omega)] at c1
            obtain ⟨y, hy⟩ : ∃ y, y = D (k - 1) := ⟨_, rfl⟩
            rw [← hy] at c1
            have hyn : y < n := by
              obtain ⟨j, _, j2, e⟩ := HS.out.2.1.mem (k := k - 1) (Nat.zero_le _) (by omega)
              rw [hy, e]; simp only [id]; omega
            have hyn' : (y : Int) < (n : Int) := by omega
            have kqx := HT.out.1.kq
            have c2 := (kqx.cell (p := ⟨ib, io + p, none⟩) ⟨HCS.out.1, World.block_lt_of_cell? _ _ (HCS.out.2 p (by omega))⟩).trans (HCS.out.2 p (by omega))
            have c3 := (kqx.cell (p := ⟨ib, io + y, none⟩) ⟨HCS.out.1, World.block_lt_of_cell? _ _ (HCS.out.2 y hyn)⟩).trans (HCS.out.2 y hyn)
            obtain ⟨s1, hs1⟩ : ∃ s, s = ids.getD p ByteArray.empty := ⟨_, rfl⟩
            obtain ⟨s2, hs2⟩ : ∃ s, s = ids.getD y ByteArray.empty := ⟨_, rfl⟩
            rw [← hs1] at c2
            rw [← hs2] at c3
            have HSS : Hid (idLt ids (D i) (D (k - 1)) ↔ slt s1 s2) := by
              show _ ↔ _
              unfold idLt; rw [← HP.out, ← hy, ← hs1, ← hs2]
            clear hy hs1 hs2 kqx
            go_wp2_with fail
            go_quiet (fail)
            go_wp2_with fail
            go_meet
            case rel =>
              refine ⟨_, rfl, fun h => ⟨hk0, HSS.out.2 ?_⟩, fun h => .inr (fun hh => ?_), HT.out.1.drewN _⟩
              · rw [bytesLess_lt, ByteArray.toList_eq, ByteArray.toList_eq] at h; show s1.data.toList < s2.data.toList; exact of_decide_eq_true h
              · rw [bytesLess_lt, ByteArray.toList_eq, ByteArray.toList_eq] at h; exact of_decide_eq_false h (HSS.out.1 hh)
          · have hd : decide (0 < k) = false := decide_eq_false hk0
            go_wp2_with fail
            go_quiet (fail)
            go_wp2_with fail
            go_meet
            case rel => exact ⟨false, rfl, (fun h => by cases h), (fun _ => .inl (by omega)), HT.out.1.drewN _⟩
        case rest =>
          obtain ⟨bb, rfl, hbt, hbf, hst⟩ := hcut
          have HR : Hid (Rw W RB 24 n (fun t => .int .u32 (hole k i D t)) wc) := hst
          clear hst
          cases bb with
          | true =>
            obtain ⟨hk0, hlt1⟩ := hbt rfl
            have HL : Hid (idLt ids (D i) (D (k - 1))) := hlt1
            have k1 : IntKind.i64.wrap ((k : Int) - 1) = (k : Int) - 1 := by rw [IntKind.wrap_i64]; omega
            have z1 : (0 : Int) ≤ (k : Int) - 1 := by omega
            have l1 : (k : Int) - 1 < (n : Int) := by omega
            have t1 : ((k : Int) - 1).toNat = k - 1 := by omega
            have l2 : (k : Int) < (n : Int) := by omega
            have c1 := HR.out.cell (k := k - 1) (by omega)
            simp only [hole_low (show k - 1 < k by omega)] at c1
            obtain ⟨y, hy⟩ : ∃ y, y = D (k - 1) := ⟨_, rfl⟩
            rw [← hy] at c1
            have HY : Hid (y = D (k - 1)) := hy
            have c2 := HR.out.cell (k := k) (by omega)
            have f2 := HR.out.free k
            clear hbt hbf hlt1 hy
            go_wp2_with fail
            go_roundw
            case rel =>
              refine ⟨k - 1, by omega, by go_num, ?_, fun t h1 h2 => ?_⟩
              · have h5 := HR.out.set (i := k) (u := .int .u32 y)
                refine h5.ext (fun t _ => ?_)
                have h6 := hole_next (t := t) hk0 hk D
                rw [← h6]
                unfold upd
                split
                · rw [HY.out]
                · rfl
              · by_cases e : t = k - 1
                · rw [e]; exact HL.out
                · exact HT.out.2 t (by omega) h2
            case measure => simp [intOf]; omega
          | false =>
            have HF : Hid (k = 0 ∨ ¬ idLt ids (D i) (D (k - 1))) := hbf rfl
            have l2 : (k : Int) < (n : Int) := by omega
            have c2 := HR.out.cell (k := k) (by omega)
            have f2 := HR.out.free k
            clear hbt hbf
            go_wp2_with fail
            go_roundw
            case rel =>
              refine ⟨i + 1, rot k i (i + 1) D, by omega, .inl (by omega), by go_num, ?_, (HS.out.2.1.mono (Nat.le_refl _) (by omega)).trans ((Prm.rot hk (by omega) D).mono (Nat.zero_le _) (Nat.le_refl _)), ins_sorted (idLt_ord ids) HS.out.2.2 hk HT.out.2 HF.out⟩
              have h5 := HR.out.set (i := k) (u := .int .u32 p)
              refine h5.ext (fun t _ => ?_)
              have h6 := hole_done (t := t) hk D
              rw [← h6]
              unfold upd
              split
              · rw [HP.out]
              · rfl
            case measure => simp [intOf]; omega
    · have H9 : Hid (∃ E, Rw W RB 24 n (fun i => .int .u32 (E i)) wr ∧ Prm 0 n id E ∧ SortedTo (idLt ids) E n) := by
        rcases hi2 with hi2 | hi2
        · obtain rfl : i = n := by omega
          exact ⟨D, HS.out⟩
        · by_cases e : n = 1
          · subst e; subst hi2; exact ⟨D, HS.out⟩
          · have hn0 : n = 0 := by omega
            exact ⟨id, HS.out.1.ext (fun k hk => by omega), Prm.refl _ _ _, fun a b h1 h2 => by omega⟩
      have hge : ¬ (i : Int) < (n : Int) := by omega
      clear HS hi2
      go_wp2_with fail
      obtain ⟨E, h1, h2, h3⟩ := H9.out
      exact HK.out _ _ _ _ _ _ _ _ _ _ _ _ _ _ _ _ _ _ _ _ _ _ _ _ _ _ _ _ _ _ _ _ _ _ _ _ _ _ _ _ _ _ _ _ wr E h1 h2 h3
end Go.Proofs.Qxb6609296a
