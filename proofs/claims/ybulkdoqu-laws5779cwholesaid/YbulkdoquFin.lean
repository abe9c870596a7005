import Derived.Test.YbulkdoquParts
import Derived.Lib.IfaceNeq
import Derived.Deep.RegionLaw
import Derived.Deep.DeepAppendRoom
import Derived.Deep.RegionHeld3
import Derived.OpenShut
import Derived.Deep.DeepCutAuto
import Derived.Deep.CutBlock
namespace Go.Proofs.Ybulkdoqu
open Go.RowKit Go.ChangeShapes
set_option linter.unusedSimpArgs false

set_option maxRecDepth 1000000 in
set_option maxHeartbeats 2000000 in
/-- the law from its test on the number of full slots to its end -/
theorem fin_any (base : Nat) (w wc : World) (N n L' rch S KB LB CB : Nat) (κ H sl : Nat → Nat)
    (hcc : Row wc CB (fun q => .int .i64 (cn sl q (2 * N))) n) (hrl : Row wc LB (fun a => .int .i64 ((lastOf κ a n : Int) - 1)) L') (hrk : Row wc KB (fun i => .int .i64 (κ i)) n)
    (hc3 : wc.cell? ⟨S, 3, none⟩ = some (.int .u32 rch)) (hta : Tab N n κ H sl rch) (hbw : Below base w wc) (hka : ∀ i, κ i < L') (hNle : N ≤ 256) (hNp : 0 < N) (hnN : n ≤ N)
    {v0 v1 v2 v3 v4 v5 v6 v7 v8 v9 v10 v11 v12 v13 v16 v17 v18 v19 v21 v22 v23 v25 v27 v28 v29 v30 v31 v32 v33 v34 v38 v39 v40 v41 v42 v43 v44 v45 v46 v47 v48 v49 v50 v51 v52 v53 v54 v55 v56 v57 v58 v59 v60 v61 v62 v63 v64 v65 v66 v67 v68 v69 v70 v71 v72 v73 v74 v75 v76 v77 v78 v79 v80 v81 v82 v83 v84 v85 v86 v87 v88 v89 v90 v91 v92 v93 v94 v95 v96 v97 v98 v99 v100 v101 v102 v103 v104 v105 v106 v107 v108 v109 v110 v111 v112 v113 v114 v115 v116 v117 v118 v119 v120 v121 v122 v123 v124 v125 v126 v127 v128 v129 v130 v131 v132 v133 v134 v135 v136 v137 v138 v139 v140 v141 v142 v143 v144 v145 v146 v147 v148 v149 v150 v151 v152 v153 v154 v155 v156 v157 v158 v159 v160 v161 v162 v163 v164 v165 v166 v167 v168 v169 v170 v171 v172 v173 v174 v175 v176 v177 v178 v179 v180 v181 v182 v183 v184 v185 v186 v187 v188 v189 v190 v191 v192 v193 v194 v195 v196 v197 v198 v199 v200 v201 v202 v203 v204 v205 v206 v207 v208 v209 v210 v211 v212 v213 v214 v215 v216 v217 v218 v219 v220 v221 v222 v223 v224 v225 v226 v227 v228 v229 v230 v231 v232 v233 v234 v235 v236 v237 v238 v239 v240 v241 v242 v243 v244 v245 v246 v247 v248 v249 v250 v251 v252 v253 v254 v255 v256 v257 v258 v259 v260 v261 v262 v263 v264 v265 v266 v267 v268 v269 v270 v271 v272 v273 v274 v275 v276 v277 v278 v279 v280 v281 v282 v283 v284 v285 v286 v287 v288 v289 v290 v291 v292 v293 v294 v295 v296 v297 v298 v299 v300 v301 v302 v303 v304 v305 v306 v307 v308 v309 v310 v311 v312 v313 v314 v315 v316 v317 v318 v319 v320 v321 v322 v323 v324 v325 v326 v327 v328 v329 v330 v331 v332 v333 v334 v335 v336 v337 v338 v339 v340 v341 v342 v343 v344 v345 v346 v347 v348 v349 v350 v351 v352 v353 v354 v355 v356 v357 v358 v359 v360 v361 v362 v363 v364 v365 v366 v367 v368 v369 v370 v371 v372 v373 v374 v375 v376 v377 v378 v379 v380 v381 v382 v383 v384 v385 v386 v387 v388 v389 v390 v391 v392 v393 v394 v395 v396 v397 v398 v399 v400 v401 v402 v403 v404 v405 v406 v407 v408 v409 v410 v411 v412 v413 v414 v415 v416 v417 v418 v419 v420 v421 v422 v423 v424 v425 v426 v427 v428 v429 v430 v431 v432 v433 v434 v435 v436 v437 v438 v439 v440 v441 v442 v443 v444 v445 v446 v447 v448 v449 v450 v451 v452 v453 v454 v455 v456 v457 v458 v459 v460 v461 v462 v463 v464 v465 v466 v467 v468 v469 v470 v471 v472 v473 v474 v475 v476 v477 v478 v479 v480 v481 v482 v483 v484 v485 v486 v487 v488 v489 v490 v491 v492 v493 v494 v495 v496 v497 v498 v499 v500 v501 v502 v503 v504 v505 v506 v507 v508 v509 : Value} :
    Code.wp Yba.prog (dropSeq 32 (Yba.f4.body.getD .skip)) (bodyPost Yba.prog Yba.f4 fun e w' => e = .returned (.bool true) ∧ Below base w w')
      ⟨#[v0, v1, v2, v3, v4, v5, v6, v7, v8, v9, v10, v11, v12, v13, .int .i64 n, .slice (some ⟨KB, 0, none⟩) n n, v16, v17, v18, v19, .pointer (some ⟨S, 0, none⟩), v21, v22, v23, .slice (some ⟨LB, 0, none⟩) L' L', v25, .int .i64 (dc κ n), v27, v28, v29, v30, v31, v32, v33, v34, .slice (some ⟨CB, 0, none⟩) n n, .int .i64 (dc κ n), .int .u64 rch, v38, v39, v40, v41, v42, v43, v44, v45, v46, v47, v48, v49, v50, v51, v52, v53, v54, v55, v56, v57, v58, v59, v60, v61, v62, v63, v64, v65, v66, v67, v68, v69, v70, v71, v72, v73, v74, v75, v76, v77, v78, v79, v80, v81, v82, v83, v84, v85, v86, v87, v88, v89, v90, v91, v92, v93, v94, v95, v96, v97, v98, v99, v100, v101, v102, v103, v104, v105, v106, v107, v108, v109, v110, v111, v112, v113, v114, v115, v116, v117, v118, v119, v120, v121, v122, v123, v124, v125, v126, v127, v128, v129, v130, v131, v132, v133, v134, v135, v136, v137, v138, v139, v140, v141, v142, v143, v144, v145, v146, v147, v148, v149, v150, v151, v152, v153, v154, v155, v156, v157, v158, v159, v160, v161, v162, v163, v164, v165, v166, v167, v168, v169, v170, v171, v172, v173, v174, v175, v176, v177, v178, v179, v180, v181, v182, v183, v184, v185, v186, v187, v188, v189, v190, v191, v192, v193, v194, v195, v196, v197, v198, v199, v200, v201, v202, v203, v204, v205, v206, v207, v208, v209, v210, v211, v212, v213, v214, v215, v216, v217, v218, v219, v220, v221, v222, v223, v224, v225, v226, v227, v228, v229, v230, v231, v232, v233, v234, v235, v236, v237, v238, v239, v240, v241, v242, v243, v244, v245, v246, v247, v248, v249, v250, v251, v252, v253, v254, v255, v256, v257, v258, v259, v260, v261, v262, v263, v264, v265, v266, v267, v268, v269, v270, v271, v272, v273, v274, v275, v276, v277, v278, v279, v280, v281, v282, v283, v284, v285, v286, v287, v288, v289, v290, v291, v292, v293, v294, v295, v296, v297, v298, v299, v300, v301, v302, v303, v304, v305, v306, v307, v308, v309, v310, v311, v312, v313, v314, v315, v316, v317, v318, v319, v320, v321, v322, v323, v324, v325, v326, v327, v328, v329, v330, v331, v332, v333, v334, v335, v336, v337, v338, v339, v340, v341, v342, v343, v344, v345, v346, v347, v348, v349, v350, v351, v352, v353, v354, v355, v356, v357, v358, v359, v360, v361, v362, v363, v364, v365, v366, v367, v368, v369, v370, v371, v372, v373, v374, v375, v376, v377, v378, v379, v380, v381, v382, v383, v384, v385, v386, v387, v388, v389, v390, v391, v392, v393, v394, v395, v396, v397, v398, v399, v400, v401, v402, v403, v404, v405, v406, v407, v408, v409, v410, v411, v412, v413, v414, v415, v416, v417, v418, v419, v420, v421, v422, v423, v424, v425, v426, v427, v428, v429, v430, v431, v432, v433, v434, v435, v436, v437, v438, v439, v440, v441, v442, v443, v444, v445, v446, v447, v448, v449, v450, v451, v452, v453, v454, v455, v456, v457, v458, v459, v460, v461, v462, v463, v464, v465, v466, v467, v468, v469, v470, v471, v472, v473, v474, v475, v476, v477, v478, v479, v480, v481, v482, v483, v484, v485, v486, v487, v488, v489, v490, v491, v492, v493, v494, v495, v496, v497, v498, v499, v500, v501, v502, v503, v504, v505, v506, v507, v508, v509], []⟩ wc := by
  have HTA : Hid (Tab N n κ H sl rch) := hta
  have HKA : Hid (∀ i, κ i < L') := hka
  have HRC : Hid (Row wc CB (fun q => .int .i64 (cn sl q (2 * N))) n) := hcc
  have HRL : Hid (Row wc LB (fun a => .int .i64 ((lastOf κ a n : Int) - 1)) L') := hrl
  have HRK : Hid (Row wc KB (fun i => .int .i64 (κ i)) n) := hrk
  have HBW : Hid (Below base w wc) := hbw
  have hrl2 := hta.rch_le hNp
  have lS : S < wc.heap.size := World.block_lt_of_cell? wc _ hc3
  clear hta hka hcc hrl hrk hbw
  show Code.wp Yba.prog (Code.seq _ _) _ _ _
  go_upto_block 20 with fail
  go_cut [49] from 482 to 502 (fun _ wc' => wc' = wc)
  case first =>
    go_wp2_with fail
    go_loopw [49] (fun i wr => ∃ q : Nat, i = .int .i64 q ∧ q ≤ n ∧ wr = wc) (fun i _ => n - (intOf i).toNat)
    case atStart => exact ⟨0, rfl, Nat.zero_le _, rfl⟩
    case round =>
      obtain ⟨q, rfl, hq, rfl⟩ := hrel
      by_cases hlt : q < n
      · have hκq := HKA.out q
        have hκI : (κ q : Int) < L' := by omega
        have hqI : (q : Int) < n := by omega
        have ck := (HRK.out.2 q hlt).1
        have lK := HRK.out.1
        have lL := HRL.out.1
        have lC := HRC.out.1
        have hll := lastOf_le κ (κ q) n
        by_cases hl : lastOf κ (κ q) n = q + 1
        · have cl : wr.cell? ⟨LB, κ q, none⟩ = some (.int .i64 q) := (HRL.out.2 (κ q) hκq).1.trans (by show some (Value.int .i64 ((lastOf κ (κ q) n : Int) - 1)) = _; rw [hl]; simp)
          have cc : wr.cell? ⟨CB, q, none⟩ = some (.int .i64 1) := (HRC.out.2 q hlt).1.trans (by show some (Value.int .i64 ((cn sl q (2 * N) : Nat) : Int)) = _; rw [HTA.out.cn q hl]; rfl)
          clear hl
          go_wp2_with fail
          go_roundw
          case rel => exact ⟨q + 1, by go_num, by omega, by first | rfl | trivial⟩
          case measure => simp [intOf]; omega
        · obtain ⟨x, hx⟩ : ∃ x : Int, x = (lastOf κ (κ q) n : Int) - 1 := ⟨_, rfl⟩
          have cl : wr.cell? ⟨LB, κ q, none⟩ = some (.int .i64 x) := (HRL.out.2 (κ q) hκq).1.trans (by show some (Value.int .i64 ((lastOf κ (κ q) n : Int) - 1)) = _; rw [hx])
          have hne : ¬ x = (q : Int) := by omega
          have hneb : (x == (q : Int)) = false := by simpa using hne
          clear hx hl
          go_wp2_with fail
          go_roundw
          case rel => exact ⟨q + 1, by go_num, by omega, by first | rfl | trivial⟩
          case measure => simp [intOf]; omega
      · obtain rfl : q = n := by omega
        go_wp2_with fail
        go_meet
        case rel => first | rfl | trivial
  obtain rfl := hcut
  go_wp2_with (go_at_call 8; refine (load_any S 3 rch _ hc3).mono ?_; rintro e w3 ⟨rfl, hw3⟩; obtain rfl := hw3.symm)
  go_ret
  exact ⟨rfl, HBW.out⟩
end Go.Proofs.Ybulkdoqu
