import Derived.Test.YbulkdoquTail
import Derived.Lib.IfaceNeq
import Derived.Deep.RegionLaw
import Derived.Deep.DeepAppendRoom
import Derived.Deep.RegionHeld3
import Derived.OpenShut
import Derived.Deep.DeepCutAuto
import Derived.Deep.CutBlock
namespace Go.Proofs.Ybulkdoqu
open Go.RowKit Go.ChangeShapes
set_option linter.unusedSimpArgs false

/-- the entries' cells -/
def entF (kk κ : Nat → Nat) (vv : Nat → Int) (x : Nat) : Value := if x % 2 = 0 then ptr (kk (κ (x / 2))) else .iface 3 (.int .i64 (vv (x / 2)))

set_option maxRecDepth 1000000 in
set_option maxHeartbeats 4000000 in
/-- the law behind its adds -/
theorem mid_any (base : Nat) (w wE : World) (N n L' k1 sh rch S B EB KB PB pc : Nat) (kk κ H sl : Nat → Nat) (hh vv : Nat → Int)
    (hme : Mem S B N sh n rch (fun q => kk (κ q)) (fun q => .iface 3 (.int .i64 (vv q))) (pvOf κ n) (kyOf κ n) sl wE) (hta : Tab N n κ H sl rch) (hre : Row wE EB (entF kk κ vv) (n * 2))
    (hrk : Row wE KB (fun i => .int .i64 (κ i)) n) (hrp : Row wE PB (fun i => ptr (kk i)) L') (hpo : Pool base L' kk hh wE) (hbw : Below base w wE)
    (hka : ∀ i, κ i < L') (hhb : ∀ i, 0 ≤ hh i ∧ hh i < 18446744073709551616) (hh1 : ∀ a, hh a / 2 ^ min sh 64 = (H a : Int)) (hh2 : ∀ a, H a < 2 * N)
    (hNle : N ≤ 256) (hNp : 0 < N) (hk1 : 2 * N = 2 ^ k1) (hnN : n ≤ N) (hL16 : L' ≤ 16) (hsh : sh ≤ 63) (hbs : base ≤ wE.heap.size)
    {v0 v1 v2 v3 v4 v5 v6 v7 v8 v9 v11 v13 v16 v18 v19 v21 v22 v23 v24 v25 v26 v27 v28 v29 v30 v31 v32 v33 v34 v35 v36 v37 v38 v39 v40 v41 v42 v43 v44 v45 v46 v47 v48 v49 v50 v51 v52 v53 v54 v55 v56 v57 v58 v59 v60 v61 v62 v63 v64 v65 v66 v67 v68 v69 v70 v71 v72 v73 v74 v75 v76 v77 v78 v79 v80 v81 v82 v83 v84 v85 v86 v87 v88 v89 v90 v91 v92 v93 v94 v95 v96 v97 v98 v99 v100 v101 v102 v103 v104 v105 v106 v107 v108 v109 v110 v111 v112 v113 v114 v115 v116 v117 v118 v119 v120 v121 v122 v123 v124 v125 v126 v127 v128 v129 v130 v131 v132 v133 v134 v135 v136 v137 v138 v139 v140 v141 v142 v143 v144 v145 v146 v147 v148 v149 v150 v151 v152 v153 v154 v155 v156 v157 v158 v159 v160 v161 v162 v163 v164 v165 v166 v167 v168 v169 v170 v171 v172 v173 v174 v175 v176 v177 v178 v179 v180 v181 v182 v183 v184 v185 v186 v187 v188 v189 v190 v191 v192 v193 v194 v195 v196 v197 v198 v199 v200 v201 v202 v203 v204 v205 v206 v207 v208 v209 v210 v211 v212 v213 v214 v215 v216 v217 v218 v219 v220 v221 v222 v223 v224 v225 v226 v227 v228 v229 v230 v231 v232 v233 v234 v235 v236 v237 v238 v239 v240 v241 v242 v243 v244 v245 v246 v247 v248 v249 v250 v251 v252 v253 v254 v255 v256 v257 v258 v259 v260 v261 v262 v263 v264 v265 v266 v267 v268 v269 v270 v271 v272 v273 v274 v275 v276 v277 v278 v279 v280 v281 v282 v283 v284 v285 v286 v287 v288 v289 v290 v291 v292 v293 v294 v295 v296 v297 v298 v299 v300 v301 v302 v303 v304 v305 v306 v307 v308 v309 v310 v311 v312 v313 v314 v315 v316 v317 v318 v319 v320 v321 v322 v323 v324 v325 v326 v327 v328 v329 v330 v331 v332 v333 v334 v335 v336 v337 v338 v339 v340 v341 v342 v343 v344 v345 v346 v347 v348 v349 v350 v351 v352 v353 v354 v355 v356 v357 v358 v359 v360 v361 v362 v363 v364 v365 v366 v367 v368 v369 v370 v371 v372 v373 v374 v375 v376 v377 v378 v379 v380 v381 v382 v383 v384 v385 v386 v387 v388 v389 v390 v391 v392 v393 v394 v395 v396 v397 v398 v399 v400 v401 v402 v403 v404 v405 v406 v407 v408 v409 v410 v411 v412 v413 v414 v415 v416 v417 v418 v419 v420 v421 v422 v423 v424 v425 v426 v427 v428 v429 v430 v431 v432 v433 v434 v435 v436 v437 v438 v439 v440 v441 v442 v443 v444 v445 v446 v447 v448 v449 v450 v451 v452 v453 v454 v455 v456 v457 v458 v459 v460 v461 v462 v463 v464 v465 v466 v467 v468 v469 v470 v471 v472 v473 v474 v475 v476 v477 v478 v479 v480 v481 v482 v483 v484 v485 v486 v487 v488 v489 v490 v491 v492 v493 v494 v495 v496 v497 v498 v499 v500 v501 v502 v503 v504 v505 v506 v507 v508 v509 : Value} :
    Code.wp Yba.prog (dropSeq 17 (Yba.f4.body.getD .skip)) (bodyPost Yba.prog Yba.f4 fun e w' => e = .returned (.bool true) ∧ Below base w w')
      ⟨#[v0, v1, v2, v3, v4, v5, v6, v7, v8, v9, .int .i64 N, v11, .slice (some ⟨PB, 0, none⟩) L' pc, v13, .int .i64 n, .slice (some ⟨KB, 0, none⟩) n n, v16, .slice (some ⟨EB, 0, none⟩) n n, v18, v19, .pointer (some ⟨S, 0, none⟩), v21, v22, v23, v24, v25, v26, v27, v28, v29, v30, v31, v32, v33, v34, v35, v36, v37, v38, v39, v40, v41, v42, v43, v44, v45, v46, v47, v48, v49, v50, v51, v52, v53, v54, v55, v56, v57, v58, v59, v60, v61, v62, v63, v64, v65, v66, v67, v68, v69, v70, v71, v72, v73, v74, v75, v76, v77, v78, v79, v80, v81, v82, v83, v84, v85, v86, v87, v88, v89, v90, v91, v92, v93, v94, v95, v96, v97, v98, v99, v100, v101, v102, v103, v104, v105, v106, v107, v108, v109, v110, v111, v112, v113, v114, v115, v116, v117, v118, v119, v120, v121, v122, v123, v124, v125, v126, v127, v128, v129, v130, v131, v132, v133, v134, v135, v136, v137, v138, v139, v140, v141, v142, v143, v144, v145, v146, v147, v148, v149, v150, v151, v152, v153, v154, v155, v156, v157, v158, v159, v160, v161, v162, v163, v164, v165, v166, v167, v168, v169, v170, v171, v172, v173, v174, v175, v176, v177, v178, v179, v180, v181, v182, v183, v184, v185, v186, v187, v188, v189, v190, v191, v192, v193, v194, v195, v196, v197, v198, v199, v200, v201, v202, v203, v204, v205, v206, v207, v208, v209, v210, v211, v212, v213, v214, v215, v216, v217, v218, v219, v220, v221, v222, v223, v224, v225, v226, v227, v228, v229, v230, v231, v232, v233, v234, v235, v236, v237, v238, v239, v240, v241, v242, v243, v244, v245, v246, v247, v248, v249, v250, v251, v252, v253, v254, v255, v256, v257, v258, v259, v260, v261, v262, v263, v264, v265, v266, v267, v268, v269, v270, v271, v272, v273, v274, v275, v276, v277, v278, v279, v280, v281, v282, v283, v284, v285, v286, v287, v288, v289, v290, v291, v292, v293, v294, v295, v296, v297, v298, v299, v300, v301, v302, v303, v304, v305, v306, v307, v308, v309, v310, v311, v312, v313, v314, v315, v316, v317, v318, v319, v320, v321, v322, v323, v324, v325, v326, v327, v328, v329, v330, v331, v332, v333, v334, v335, v336, v337, v338, v339, v340, v341, v342, v343, v344, v345, v346, v347, v348, v349, v350, v351, v352, v353, v354, v355, v356, v357, v358, v359, v360, v361, v362, v363, v364, v365, v366, v367, v368, v369, v370, v371, v372, v373, v374, v375, v376, v377, v378, v379, v380, v381, v382, v383, v384, v385, v386, v387, v388, v389, v390, v391, v392, v393, v394, v395, v396, v397, v398, v399, v400, v401, v402, v403, v404, v405, v406, v407, v408, v409, v410, v411, v412, v413, v414, v415, v416, v417, v418, v419, v420, v421, v422, v423, v424, v425, v426, v427, v428, v429, v430, v431, v432, v433, v434, v435, v436, v437, v438, v439, v440, v441, v442, v443, v444, v445, v446, v447, v448, v449, v450, v451, v452, v453, v454, v455, v456, v457, v458, v459, v460, v461, v462, v463, v464, v465, v466, v467, v468, v469, v470, v471, v472, v473, v474, v475, v476, v477, v478, v479, v480, v481, v482, v483, v484, v485, v486, v487, v488, v489, v490, v491, v492, v493, v494, v495, v496, v497, v498, v499, v500, v501, v502, v503, v504, v505, v506, v507, v508, v509], []⟩ wE := by
  have HME : Hid (Mem S B N sh n rch (fun q => kk (κ q)) (fun q => .iface 3 (.int .i64 (vv q))) (pvOf κ n) (kyOf κ n) sl wE) := hme
  have HTA : Hid (Tab N n κ H sl rch) := hta
  have HRE1 : Hid (Row wE EB (entF kk κ vv) (n * 2)) := hre
  have HRK1 : Hid (Row wE KB (fun i => .int .i64 (κ i)) n) := hrk
  have HRP1 : Hid (Row wE PB (fun i => ptr (kk i)) L') := hrp
  have HPO1 : Hid (Pool base L' kk hh wE) := hpo
  have HB1 : Hid (Below base w wE) := hbw
  have HKA : Hid (∀ i, κ i < L') := hka
  have HHB : Hid (∀ i, 0 ≤ hh i ∧ hh i < 18446744073709551616) := hhb
  have HH1 : Hid (∀ a, hh a / 2 ^ min sh 64 = (H a : Int)) := hh1
  have HH2 : Hid (∀ a, H a < 2 * N) := hh2
  have HKK : Hid (2 * N = 2 ^ k1) := hk1
  have HBS : Hid (base ≤ wE.heap.size) := hbs
  clear hme hta hre hrk hrp hpo hbw hka hhb hh1 hh2 hk1 hbs
  have hmk := make_ints L' (by omega) wE
  show Code.wp Yba.prog (Code.seq _ _) _ _ _
  go_upto_block 8 with fail
  have HRF : Hid (Row (wE.alloc (.cells (madeCells #[.int .i64 0] L') 3)) wE.heap.size (fun _ => .int .i64 0) L') := Row.made _ _ _ _
  have HBF : Hid (Below wE.heap.size wE (wE.alloc (.cells (madeCells #[.int .i64 0] L') 3))) := (Below.refl _ _).alloc (Nat.le_refl _) _
  have hF1 : (wE.alloc (.cells (madeCells #[.int .i64 0] L') 3)).heap.size = wE.heap.size + 1 := by simp
  generalize wE.alloc (.cells (madeCells #[.int .i64 0] L') 3) = W4 at *
  clear hmk
  obtain ⟨FB, hFB⟩ : ∃ FB, FB = wE.heap.size := ⟨_, rfl⟩
  rw [← hFB] at HRF HBF hF1 ⊢
  have HFB : Hid (FB = wE.heap.size) := hFB
  clear hFB
  go_cut [23] from 173 to 181 (fun i wc' => Row wc' FB (fun _ => .int .i64 (-1)) L' ∧ Below FB wE wc' ∧ W4.heap.size ≤ wc'.heap.size)
  case first =>
    go_wp2_with fail
    go_loopw [23] (fun i wr => ∃ j : Nat, i = .int .i64 j ∧ j ≤ L' ∧ Row wr FB (fun i => .int .i64 (if i < j then -1 else 0)) L' ∧ Below FB wE wr ∧ W4.heap.size ≤ wr.heap.size) (fun i _ => L' - (intOf i).toNat)
    case atStart => exact ⟨0, rfl, Nat.zero_le _, HRF.out.congr (fun i _ => by simp), HBF.out, Nat.le_refl _⟩
    case round =>
      obtain ⟨j, rfl, hj, hrow, hbel, hszr⟩ := hrel
      have HRO : Hid (Row wr FB (fun i => .int .i64 (if i < j then -1 else 0)) L') := hrow
      have HBE : Hid (Below FB wE wr) := hbel
      clear hrow hbel
      by_cases hlt : j < L'
      · have hck : ∃ y, wr.cell? ⟨FB, j, none⟩ = some (.int .i64 y) := ⟨_, (HRO.out.2 j hlt).1⟩
        obtain ⟨y, ck⟩ := hck
        have fk := (HRO.out.2 j hlt).2
        have lK : FB < wr.heap.size := HRO.out.1
        go_wp2_with fail
        go_roundw
        case rel =>
          refine ⟨j + 1, by go_num, by omega, (HRO.out.set j hlt _).congr (fun i hi => ?_), HBE.out.setCell (by simp) _, by simpa [World.setCell] using hszr⟩
          by_cases e : i = j
          · subst e; simp
          · by_cases e2 : i < j
            · simp [e, e2, show i < j + 1 by omega]
            · simp [e, e2, show ¬ i < j + 1 by omega]
        case measure => simp [intOf]; omega
      · obtain rfl : j = L' := by omega
        go_wp2_with fail
        go_meet
        case rel => exact ⟨HRO.out.congr (fun i hi => by simp [hi]), HBE.out, hszr⟩
  obtain ⟨hrow, hbel, hsz4⟩ := hcut
  have HRF1 : Hid (Row wc FB (fun _ => .int .i64 (-1)) L') := hrow
  have HBE1 : Hid (Below FB wE wc) := hbel
  clear hrow hbel HRF HBF
  have hmk := make_ints L' (by omega) wc
  go_upto_block 10 with fail
  have HRL : Hid (Row (wc.alloc (.cells (madeCells #[.int .i64 0] L') 3)) wc.heap.size (fun _ => .int .i64 0) L') := Row.made _ _ _ _
  have HRF2 : Hid (Row (wc.alloc (.cells (madeCells #[.int .i64 0] L') 3)) FB (fun _ => .int .i64 (-1)) L') := HRF1.out.below ((Below.refl _ _).alloc (Nat.le_refl _) _)
  have HBF : Hid (Below FB wE (wc.alloc (.cells (madeCells #[.int .i64 0] L') 3))) := HBE1.out.alloc (by omega) _
  have hL1s : (wc.alloc (.cells (madeCells #[.int .i64 0] L') 3)).heap.size = wc.heap.size + 1 := by simp
  generalize wc.alloc (.cells (madeCells #[.int .i64 0] L') 3) = W5 at *
  generalize hLB : wc.heap.size = LB at *
  clear hmk HRF1 HBE1 hLB
  have hFL : FB < LB := by omega
  go_cut [25] from 185 to 193 (fun i wc' => Row wc' LB (fun _ => .int .i64 (-1)) L' ∧ Row wc' FB (fun _ => .int .i64 (-1)) L' ∧ Below FB wE wc' ∧ W5.heap.size ≤ wc'.heap.size)
  case first =>
    go_wp2_with fail
    go_loopw [25] (fun i wr => ∃ j : Nat, i = .int .i64 j ∧ j ≤ L' ∧ Row wr LB (fun i => .int .i64 (if i < j then -1 else 0)) L' ∧ Row wr FB (fun _ => .int .i64 (-1)) L' ∧ Below FB wE wr ∧ W5.heap.size ≤ wr.heap.size) (fun i _ => L' - (intOf i).toNat)
    case atStart => exact ⟨0, rfl, Nat.zero_le _, HRL.out.congr (fun i _ => by simp), HRF2.out, HBF.out, Nat.le_refl _⟩
    case round =>
      obtain ⟨j, rfl, hj, hrow, hrf, hbel, hszr⟩ := hrel
      have HRO : Hid (Row wr LB (fun i => .int .i64 (if i < j then -1 else 0)) L') := hrow
      have HRF3 : Hid (Row wr FB (fun _ => .int .i64 (-1)) L') := hrf
      have HBE : Hid (Below FB wE wr) := hbel
      clear hrow hbel hrf
      by_cases hlt : j < L'
      · have hck : ∃ y, wr.cell? ⟨LB, j, none⟩ = some (.int .i64 y) := ⟨_, (HRO.out.2 j hlt).1⟩
        obtain ⟨y, ck⟩ := hck
        have fk := (HRO.out.2 j hlt).2
        have lK : LB < wr.heap.size := HRO.out.1
        go_wp2_with fail
        go_roundw
        case rel =>
          refine ⟨j + 1, by go_num, by omega, (HRO.out.set j hlt _).congr (fun i hi => ?_), HRF3.out.only ((Only.refl wr (fun k => k = LB)).setCell _ rfl _) (by omega), HBE.out.setCell (by simp; omega) _, by simpa [World.setCell] using hszr⟩
          by_cases e : i = j
          · subst e; simp
          · by_cases e2 : i < j
            · simp [e, e2, show i < j + 1 by omega]
            · simp [e, e2, show ¬ i < j + 1 by omega]
        case measure => simp [intOf]; omega
      · obtain rfl : j = L' := by omega
        go_wp2_with fail
        go_meet
        case rel => exact ⟨HRO.out.congr (fun i hi => by simp [hi]), HRF3.out, HBE.out, hszr⟩
  obtain ⟨hrow, hrf, hbel, hsz5⟩ := hcut
  have HRL1 : Hid (Row wc LB (fun _ => .int .i64 (-1)) L') := hrow
  have HRF1 : Hid (Row wc FB (fun _ => .int .i64 (-1)) L') := hrf
  have HBE1 : Hid (Below FB wE wc) := hbel
  clear hrow hrf hbel HRL HRF2 HBF
  obtain ⟨W6, hW6⟩ : ∃ W6, W6 = wc := ⟨_, rfl⟩
  rw [← hW6] at HRL1 HRF1 HBE1 hsz5 ⊢
  clear hW6
  go_upto_block 12 with fail
  have hlB : B < FB := by rw [HFB.out]; exact World.block_lt_of_cell? wE _ (HME.out.key 0 hNp)
  have hlS : S < FB := by rw [HFB.out]; exact World.block_lt_of_cell? wE _ HME.out.c0
  have hlK : KB < FB := by rw [HFB.out]; exact HRK1.out.1
  have hlE : EB < FB := by rw [HFB.out]; exact HRE1.out.1
  have hlP : PB < FB := by rw [HFB.out]; exact HRP1.out.1
  go_cut [26, 27, 28, 29, 30] from 194 to 301 (fun d p c ki wp wc' => d = .int .i64 (dc κ n) ∧ Row wc' FB (fun a => .int .i64 ((fstOf κ a n : Int) - 1)) L' ∧ Row wc' LB (fun a => .int .i64 ((lastOf κ a n : Int) - 1)) L' ∧ Below FB wE wc' ∧ W6.heap.size ≤ wc'.heap.size)
  case first =>
    go_wp2_with fail
    go_loopw [26, 27, 28, 29, 30] (fun d p c ki wp wr => ∃ j m : Nat, p = .int .i64 j ∧ j ≤ N ∧ (j ≤ n ∧ m = j ∨ n ≤ j ∧ m = n) ∧ d = .int .i64 (dc κ m) ∧ Row wr FB (fun a => .int .i64 ((fstOf κ a m : Int) - 1)) L' ∧ Row wr LB (fun a => .int .i64 ((lastOf κ a m : Int) - 1)) L' ∧ Below FB wE wr ∧ W6.heap.size ≤ wr.heap.size) (fun _ p _ _ _ _ => N - (intOf p).toNat)
    case atStart => exact ⟨0, 0, rfl, Nat.zero_le _, .inl ⟨Nat.zero_le _, rfl⟩, rfl, HRF1.out, HRL1.out, HBE1.out, Nat.le_refl _⟩
    case round =>
      obtain ⟨j, m, rfl, hj, hm, rfl, hrf, hrl, hbel, hszr⟩ := hrel
      have HRF3 : Hid (Row wr FB (fun a => .int .i64 ((fstOf κ a m : Int) - 1)) L') := hrf
      have HRL3 : Hid (Row wr LB (fun a => .int .i64 ((lastOf κ a m : Int) - 1)) L') := hrl
      have HBE : Hid (Below FB wE wr) := hbel
      clear hrl hrf hbel
      by_cases hjN : j < N
      · have rd : ∀ b o, b < FB → wr.cell? ⟨b, o, none⟩ = wE.cell? ⟨b, o, none⟩ := fun b o hb => HBE.out.cell (p := ⟨b, o, none⟩) hb
        have c0 : wr.cell? ⟨S, 0, none⟩ = some (.slice (some ⟨B, 0, none⟩) N N) := (rd S 0 hlS).trans HME.out.c0
        have hjI : (j : Int) < N := by omega
        by_cases hjn : j < n
        · obtain ⟨_, rfl⟩ : j ≤ n ∧ m = j := by omega
          have hκj := HKA.out m
          have hκI : (κ m : Int) < L' := by omega
          have ck : wr.cell? ⟨KB, m, none⟩ = some (.int .i64 (κ m)) := (rd KB _ hlK).trans (HRK1.out.2 m hjn).1
          have ff := (HRF3.out.2 (κ m) hκj).2
          have fl := (HRL3.out.2 (κ m) hκj).2
          have hnI : ¬ (n : Int) ≤ m := by omega
          have hdc := dc_le κ m
          have lFB : FB < wr.heap.size := HRF3.out.1
          have lLB : LB < wr.heap.size := HRL3.out.1
          by_cases h0 : lastOf κ (κ m) m = 0
          · skip
            have c3 : wr.cell? ⟨B, m * 6 + 2, none⟩ = some (.int .u32 0) := (rd B _ hlB).trans ((HME.out.prev m hjN).trans (by rw [pvOf, if_pos hjn, h0]; rfl))
            have c4 : wr.cell? ⟨B, m * 6 + 3, none⟩ = some (.int .u32 ((dc κ m : Int) + 1)) := (rd B _ hlB).trans ((HME.out.keys m hjN).trans (by rw [kyOf, if_pos hjn, dc_new κ m h0]; simp))
            have cf : wr.cell? ⟨FB, κ m, none⟩ = some (.int .i64 (-1)) := (HRF3.out.2 (κ m) hκj).1.trans (by show some (Value.int .i64 ((fstOf κ (κ m) m : Int) - 1)) = _; rw [(fstOf_zero κ (κ m) m).2 h0]; rfl)
            have cl : wr.cell? ⟨LB, κ m, none⟩ = some (.int .i64 (-1)) := (HRL3.out.2 (κ m) hκj).1.trans (by show some (Value.int .i64 ((lastOf κ (κ m) m : Int) - 1)) = _; rw [h0]; rfl)
            have HC3 : Hid (wE.cell? ⟨B, m * 6 + 2, none⟩ = some (.int .u32 0)) := (rd B _ hlB).symm.trans c3
            have HC4 : Hid (wE.cell? ⟨B, m * 6 + 3, none⟩ = some (.int .u32 ((dc κ m : Int) + 1))) := (rd B _ hlB).symm.trans c4
            clear c3 c4 rd
            go_wp2_with fail
            have HRF4 : Hid (Row ((wr.setCell ⟨FB, κ m, none⟩ (.int .i64 m)).setCell ⟨LB, κ m, none⟩ (.int .i64 m)) FB (fun a => .int .i64 ((fstOf κ a (m + 1) : Int) - 1)) L') := ((HRF3.out.set (κ m) hκj (.int .i64 m)).only ((Only.refl _ (fun k => k = LB)).setCell _ rfl _) (by omega)).congr (fun a ha => by
              rw [← first_new κ m a h0]
              by_cases e : a = κ m
              · simp [e]
              · simp [e])
            have HRL4 : Hid (Row ((wr.setCell ⟨FB, κ m, none⟩ (.int .i64 m)).setCell ⟨LB, κ m, none⟩ (.int .i64 m)) LB (fun a => .int .i64 ((lastOf κ a (m + 1) : Int) - 1)) L') := ((HRL3.out.only ((Only.refl wr (fun k => k = FB)).setCell _ rfl _) (by omega)).set (κ m) hκj (.int .i64 m)).congr (fun a ha => by
              rw [← last_next κ m a]
              by_cases e : a = κ m
              · simp [e]
              · simp [e])
            have HBE4 : Hid (Below FB wE ((wr.setCell ⟨FB, κ m, none⟩ (.int .i64 m)).setCell ⟨LB, κ m, none⟩ (.int .i64 m))) := (HBE.out.setCell (by simp) _).setCell (by simp; omega) _
            have hsz4' : W6.heap.size ≤ ((wr.setCell ⟨FB, κ m, none⟩ (.int .i64 m)).setCell ⟨LB, κ m, none⟩ (.int .i64 m)).heap.size := by simpa [World.setCell] using hszr
            generalize (wr.setCell ⟨FB, κ m, none⟩ (.int .i64 m)).setCell ⟨LB, κ m, none⟩ (.int .i64 m) = W7 at HRF4 HRL4 HBE4 hsz4' ⊢
            clear cf cl ff fl ck c0 lFB lLB
            have rd : ∀ b o, b < FB → W7.cell? ⟨b, o, none⟩ = wE.cell? ⟨b, o, none⟩ := fun b o hb => HBE4.out.cell (p := ⟨b, o, none⟩) hb
            have c1 : W7.cell? ⟨B, m * 6, none⟩ = some (ptr (kk (κ m))) := (rd B _ hlB).trans ((HME.out.key m hjN).trans (by rw [if_pos hjn]))
            have c2 : W7.cell? ⟨B, m * 6 + 1, none⟩ = some (.iface 3 (.int .i64 (vv m))) := (rd B _ hlB).trans ((HME.out.val m hjN).trans (by rw [if_pos hjn]))
            have c3 : W7.cell? ⟨B, m * 6 + 2, none⟩ = some (.int .u32 0) := (rd B _ hlB).trans HC3.out
            have c4 : W7.cell? ⟨B, m * 6 + 3, none⟩ = some (.int .u32 ((dc κ m : Int) + 1)) := (rd B _ hlB).trans HC4.out
            have c5 : W7.cell? ⟨EB, m * 2, none⟩ = some (ptr (kk (κ m))) := (rd EB _ hlE).trans ((HRE1.out.2 (m * 2) (by omega)).1.trans (by simp [entF]))
            have c6 : W7.cell? ⟨EB, m * 2 + 1, none⟩ = some (.iface 3 (.int .i64 (vv m))) := (rd EB _ hlE).trans ((HRE1.out.2 (m * 2 + 1) (by omega)).1.trans (by simp [entF, show (m * 2 + 1) % 2 = 1 by omega, show (m * 2 + 1) / 2 = m by omega]))
            have hpl : Plain W7 (kk (κ m)) := by
              obtain ⟨cs, t, e⟩ := HPO1.out.plain (κ m) hκj
              exact ⟨cs, t, (HBE4.out.block _ (by rw [HFB.out]; exact (HPO1.out.plain (κ m) hκj).lt)).trans e⟩
            have hnp : ∀ d, (binOp .neq 26 (.pointer (some ⟨kk (κ m), 0, none⟩)) (.pointer (some ⟨kk (κ m), 0, none⟩))).run Yba.prog (W7.drewN d) = .ok (.bool false) (W7.drewN d) := fun d => by
              have := neq_ptr (kk (κ m)) (kk (κ m)) (W7.drewN d) hpl hpl
              simpa using this
            have hni : ∀ d, (binOp .neq 20 (.iface 3 (.int .i64 (vv m))) (.iface 3 (.int .i64 (vv m)))).run Yba.prog (W7.drewN d) = .ok (.bool false) (W7.drewN d) := fun d => by
              have := Go.Lib.run_neq_iface_int (P := Yba.prog) (W7.drewN d) (t := 20) (tx := 3) (k := .i64) (vv m) (vv m) Yba.underlying20 (by kernel_rfl) Yba.underlying3
              simpa using this
            clear hpl rd
            go_quiet (fail)
            go_wp2_with fail
            go_roundw
            case rel => exact ⟨m + 1, m + 1, by go_num, by omega, .inl ⟨by omega, rfl⟩, by rw [dc_new κ m h0]; first | rfl | simp, HRF4.out, HRL4.out, Below.drewN HBE4.out _, hsz4'⟩
            case measure => simp [intOf]; omega
          · have hll := lastOf_le κ (κ m) m
            have hfl := fstOf_le κ (κ m) m
            have hf0 : fstOf κ (κ m) m ≠ 0 := fun e => h0 ((fstOf_zero _ _ _).1 e)
            have c3 : wr.cell? ⟨B, m * 6 + 2, none⟩ = some (.int .u32 (lastOf κ (κ m) m)) := (rd B _ hlB).trans ((HME.out.prev m hjN).trans (by rw [pvOf, if_pos hjn]))
            have c4 : wr.cell? ⟨B, m * 6 + 3, none⟩ = some (.int .u32 (dc κ m)) := (rd B _ hlB).trans ((HME.out.keys m hjN).trans (by rw [kyOf, if_pos hjn, dc_old κ m h0]))
            have cf : wr.cell? ⟨FB, κ m, none⟩ = some (.int .i64 ((fstOf κ (κ m) m : Int) - 1)) := (HRF3.out.2 (κ m) hκj).1
            have cl : wr.cell? ⟨LB, κ m, none⟩ = some (.int .i64 ((lastOf κ (κ m) m : Int) - 1)) := (HRL3.out.2 (κ m) hκj).1
            have HC3 : Hid (wE.cell? ⟨B, m * 6 + 2, none⟩ = some (.int .u32 (lastOf κ (κ m) m))) := (rd B _ hlB).symm.trans c3
            have HC4 : Hid (wE.cell? ⟨B, m * 6 + 3, none⟩ = some (.int .u32 (dc κ m))) := (rd B _ hlB).symm.trans c4
            clear c3 c4 rd
            go_wp2_with fail
            have HRF4 : Hid (Row (wr.setCell ⟨LB, κ m, none⟩ (.int .i64 m)) FB (fun a => .int .i64 ((fstOf κ a (m + 1) : Int) - 1)) L') := (HRF3.out.only ((Only.refl wr (fun k => k = LB)).setCell _ rfl _) (by omega)).congr (fun a ha => by rw [← first_old κ m a h0])
            have HRL4 : Hid (Row (wr.setCell ⟨LB, κ m, none⟩ (.int .i64 m)) LB (fun a => .int .i64 ((lastOf κ a (m + 1) : Int) - 1)) L') := ((HRL3.out).set (κ m) hκj (.int .i64 m)).congr (fun a ha => by
              rw [← last_next κ m a]
              by_cases e : a = κ m
              · simp [e]
              · simp [e])
            have HBE4 : Hid (Below FB wE (wr.setCell ⟨LB, κ m, none⟩ (.int .i64 m))) := HBE.out.setCell (by simp; omega) _
            have hsz4' : W6.heap.size ≤ (wr.setCell ⟨LB, κ m, none⟩ (.int .i64 m)).heap.size := by simpa [World.setCell] using hszr
            generalize wr.setCell ⟨LB, κ m, none⟩ (.int .i64 m) = W7 at HRF4 HRL4 HBE4 hsz4' ⊢
            clear cf cl ff fl ck c0 lFB lLB
            have rd : ∀ b o, b < FB → W7.cell? ⟨b, o, none⟩ = wE.cell? ⟨b, o, none⟩ := fun b o hb => HBE4.out.cell (p := ⟨b, o, none⟩) hb
            have c1 : W7.cell? ⟨B, m * 6, none⟩ = some (ptr (kk (κ m))) := (rd B _ hlB).trans ((HME.out.key m hjN).trans (by rw [if_pos hjn]))
            have c2 : W7.cell? ⟨B, m * 6 + 1, none⟩ = some (.iface 3 (.int .i64 (vv m))) := (rd B _ hlB).trans ((HME.out.val m hjN).trans (by rw [if_pos hjn]))
            have c3 : W7.cell? ⟨B, m * 6 + 2, none⟩ = some (.int .u32 (lastOf κ (κ m) m)) := (rd B _ hlB).trans HC3.out
            have c4 : W7.cell? ⟨B, m * 6 + 3, none⟩ = some (.int .u32 (dc κ m)) := (rd B _ hlB).trans HC4.out
            have c5 : W7.cell? ⟨EB, m * 2, none⟩ = some (ptr (kk (κ m))) := (rd EB _ hlE).trans ((HRE1.out.2 (m * 2) (by omega)).1.trans (by simp [entF]))
            have c6 : W7.cell? ⟨EB, m * 2 + 1, none⟩ = some (.iface 3 (.int .i64 (vv m))) := (rd EB _ hlE).trans ((HRE1.out.2 (m * 2 + 1) (by omega)).1.trans (by simp [entF, show (m * 2 + 1) % 2 = 1 by omega, show (m * 2 + 1) / 2 = m by omega]))
            have hpl : Plain W7 (kk (κ m)) := by
              obtain ⟨cs, t, e⟩ := HPO1.out.plain (κ m) hκj
              exact ⟨cs, t, (HBE4.out.block _ (by rw [HFB.out]; exact (HPO1.out.plain (κ m) hκj).lt)).trans e⟩
            have hnp : ∀ d, (binOp .neq 26 (.pointer (some ⟨kk (κ m), 0, none⟩)) (.pointer (some ⟨kk (κ m), 0, none⟩))).run Yba.prog (W7.drewN d) = .ok (.bool false) (W7.drewN d) := fun d => by
              have := neq_ptr (kk (κ m)) (kk (κ m)) (W7.drewN d) hpl hpl
              simpa using this
            have hni : ∀ d, (binOp .neq 20 (.iface 3 (.int .i64 (vv m))) (.iface 3 (.int .i64 (vv m)))).run Yba.prog (W7.drewN d) = .ok (.bool false) (W7.drewN d) := fun d => by
              have := Go.Lib.run_neq_iface_int (P := Yba.prog) (W7.drewN d) (t := 20) (tx := 3) (k := .i64) (vv m) (vv m) Yba.underlying20 (by kernel_rfl) Yba.underlying3
              simpa using this
            clear hpl rd
            go_quiet (fail)
            go_wp2_with fail
            go_roundw
            case rel => exact ⟨m + 1, m + 1, by go_num, by omega, .inl ⟨by omega, rfl⟩, by rw [dc_old κ m h0], HRF4.out, HRL4.out, Below.drewN HBE4.out _, hsz4'⟩
            case measure => simp [intOf]; omega
        · have e1 : m = n := by omega
          subst e1
          have c1 : wr.cell? ⟨B, j * 6, none⟩ = some (.pointer none) := (rd B _ hlB).trans ((HME.out.key j hjN).trans (by rw [if_neg hjn]))
          have c2 : wr.cell? ⟨B, j * 6 + 1, none⟩ = some .nilIface := (rd B _ hlB).trans ((HME.out.val j hjN).trans (by rw [if_neg hjn]))
          have c3 : wr.cell? ⟨B, j * 6 + 2, none⟩ = some (.int .u32 0) := (rd B _ hlB).trans ((HME.out.prev j hjN).trans (by rw [pvOf, if_neg hjn]; rfl))
          have c4 : wr.cell? ⟨B, j * 6 + 3, none⟩ = some (.int .u32 0) := (rd B _ hlB).trans ((HME.out.keys j hjN).trans (by rw [kyOf, if_neg hjn]; rfl))
          have hnI : (m : Int) ≤ j := by omega
          clear rd
          go_wp2_with fail
          go_roundw
          case rel => exact ⟨j + 1, m, by go_num, by omega, .inr ⟨by omega, rfl⟩, rfl, HRF3.out, HRL3.out, HBE.out, hszr⟩
          case measure => simp [intOf]; omega
      · obtain ⟨_, rfl⟩ : n ≤ j ∧ m = n := by omega
        go_wp2_with fail
        go_meet
        case rel => exact ⟨rfl, HRF3.out, HRL3.out, HBE.out, hszr⟩
  obtain ⟨rfl, hrf, hrl, hbel, hsz6⟩ := hcut
  clear HRF1 HRL1 HBE1
  have HRF1 : Hid (Row wc FB (fun a => .int .i64 ((fstOf κ a n : Int) - 1)) L') := hrf
  have HRL1 : Hid (Row wc LB (fun a => .int .i64 ((lastOf κ a n : Int) - 1)) L') := hrl
  have HBE1 : Hid (Below FB wE wc) := hbel
  clear hrf hrl hbel HRE1
  have ct : wc.cell? ⟨S, 2, none⟩ = some (.int .u32 0) := (HBE1.out.cell (p := ⟨S, 2, none⟩) hlS).trans HME.out.c2
  have hmk : (Instr.makeSlice 22 (.int .i64 (2 * (N : Int))) (.int .i64 (2 * (N : Int)))).run Yba.prog wc = .ok (.slice (some ⟨wc.heap.size, 0, none⟩) (2 * N) (2 * N)) (wc.alloc (.cells (madeCells #[.int .u32 0] (2 * N)) 23)) := by
    have := make_u32s (2 * N) (by omega) wc
    rw [Int.natCast_mul] at this
    exact this
  go_upto_block 14 with (go_at_call 8; refine (load_any S 2 0 _ ct).mono ?_; rintro e w3 ⟨rfl, hw3⟩; obtain rfl := hw3.symm)
  have HRS : Hid (Row (wc.alloc (.cells (madeCells #[.int .u32 0] (2 * N)) 23)) wc.heap.size (fun _ => .int .u32 0) (2 * N)) := Row.made _ _ _ _
  have HRF2 : Hid (Row (wc.alloc (.cells (madeCells #[.int .u32 0] (2 * N)) 23)) FB (fun a => .int .i64 ((fstOf κ a n : Int) - 1)) L') := HRF1.out.below ((Below.refl _ _).alloc (Nat.le_refl _) _)
  have HRL2 : Hid (Row (wc.alloc (.cells (madeCells #[.int .u32 0] (2 * N)) 23)) LB (fun a => .int .i64 ((lastOf κ a n : Int) - 1)) L') := HRL1.out.below ((Below.refl _ _).alloc (Nat.le_refl _) _)
  have HBE2 : Hid (Below FB wE (wc.alloc (.cells (madeCells #[.int .u32 0] (2 * N)) 23))) := HBE1.out.alloc (by omega) _
  have hS1s : (wc.alloc (.cells (madeCells #[.int .u32 0] (2 * N)) 23)).heap.size = wc.heap.size + 1 := by simp
  generalize wc.alloc (.cells (madeCells #[.int .u32 0] (2 * N)) 23) = W7 at *
  generalize hSB : wc.heap.size = SB at *
  clear hmk ct HRF1 HRL1 HBE1 hSB
  have hFS : LB < SB := by omega
  go_cut [34] from 314 to 333 (fun i wc' => Row wc' SB (fun j => .int .u32 (sl j)) (2 * N) ∧ Only W7 wc' (fun k => k = SB))
  case first =>
    go_wp2_with fail
    go_loopw [34] (fun i wr => ∃ j : Nat, i = .int .i64 j ∧ j ≤ 2 * N ∧ Row wr SB (fun i => .int .u32 (if i < j then (sl i : Int) else 0)) (2 * N) ∧ Only W7 wr (fun k => k = SB)) (fun i _ => 2 * N - (intOf i).toNat)
    case atStart => exact ⟨0, rfl, Nat.zero_le _, HRS.out.congr (fun i _ => by simp), Only.refl _ _⟩
    case round =>
      obtain ⟨j, rfl, hj, hrow, hon⟩ := hrel
      have HRO : Hid (Row wr SB (fun i => .int .u32 (if i < j then (sl i : Int) else 0)) (2 * N)) := hrow
      have HON : Hid (Only W7 wr (fun k => k = SB)) := hon
      clear hrow hon
      by_cases hlt : j < 2 * N
      · have c0 : wr.cell? ⟨S, 0, none⟩ = some (.slice (some ⟨B, 0, none⟩) N N) := HON.out.cell ((HBE2.out.cell (p := ⟨S, 0, none⟩) hlS).trans HME.out.c0) (fun e => by have e4 : S = SB := e; omega)
        have cs : wr.cell? ⟨B, j / 2 * 6 + 4 + j % 2, none⟩ = some (.int .u32 (sl j)) := HON.out.cell ((HBE2.out.cell (p := ⟨B, j / 2 * 6 + 4 + j % 2, none⟩) hlB).trans (HME.out.slot j hlt)) (fun e => by have e4 : B = SB := e; omega)
        have hb := and_one_i64 j (by omega)
        have h2 : ((j % 2 : Nat) : Int) < 2 := by omega
        have h3 : j / 2 < N := by omega
        have hjI : (j : Int) < 2 * N := by omega
        have hck : ∃ y, wr.cell? ⟨SB, j, none⟩ = some (.int .u32 y) := ⟨_, (HRO.out.2 j hlt).1⟩
        obtain ⟨y, ck⟩ := hck
        have fk := (HRO.out.2 j hlt).2
        have lK : SB < wr.heap.size := HRO.out.1
        go_wp2_with (go_at_call 8; refine (load_any B (j / 2 * 6 + 4 + j % 2) (sl j) _ cs).mono ?_; rintro e w3 ⟨rfl, hw3⟩; obtain rfl := hw3.symm)
        go_roundw
        case rel =>
          refine ⟨j + 1, by go_num, by omega, (HRO.out.set j hlt _).congr (fun i hi => ?_), HON.out.setCell _ rfl _⟩
          by_cases e : i = j
          · subst e; simp
          · by_cases e2 : i < j
            · simp [e, e2, show i < j + 1 by omega]
            · simp [e, e2, show ¬ i < j + 1 by omega]
        case measure => simp [intOf]; omega
      · obtain rfl : j = 2 * N := by omega
        have hjI : ¬ (2 * (N : Int)) < 2 * N := by omega
        go_wp2_with fail
        go_meet
        case rel => exact ⟨HRO.out.congr (fun i hi => by simp [hi]), HON.out⟩
  obtain ⟨hrow, hon⟩ := hcut
  have HRS1 : Hid (Row wc SB (fun j => .int .u32 (sl j)) (2 * N)) := hrow
  have HRF1 : Hid (Row wc FB (fun a => .int .i64 ((fstOf κ a n : Int) - 1)) L') := HRF2.out.only hon (by omega)
  have HRL1 : Hid (Row wc LB (fun a => .int .i64 ((lastOf κ a n : Int) - 1)) L') := HRL2.out.only hon (by omega)
  have HBE1 : Hid (Below FB wE wc) := HBE2.out.trans (hon.below (by omega) (fun k hk => by omega))
  have hsz7 := hon.size
  have hbE : Below wE.heap.size wE wc := by
    have h9 := HFB.out
    rw [← h9]
    exact HBE1.out
  go_step
  exact tail_any base w wc N n L' k1 sh rch S B KB PB pc FB LB SB kk κ H sl hh _ HRS1.out HRF1.out HRL1.out (HRK1.out.below hbE) (HRP1.out.below hbE) (HPO1.out.below hbE) (HME.out.below hNp hbE) HTA.out (HB1.out.trans (hbE.mono HBS.out)) HKA.out HHB.out HH1.out HH2.out hNle hNp HKK.out hnN hL16 hsh (Nat.le_trans HBS.out hbE.size)
end Go.Proofs.Ybulkdoqu
