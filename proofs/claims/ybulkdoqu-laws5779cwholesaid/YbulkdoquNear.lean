import Derived.Test.YbulkdoquParts
import Derived.Lib.IfaceNeq
import Derived.Deep.RegionLaw
import Derived.Deep.DeepAppendRoom
import Derived.Deep.RegionHeld3
import Derived.OpenShut
import Derived.Deep.DeepCutAuto
import Derived.Deep.CutBlock
namespace Go.Proofs.Ybulkdoqu
open Go.RowKit Go.ChangeShapes
set_option linter.unusedSimpArgs false

set_option maxRecDepth 1000000 in
set_option maxHeartbeats 2000000 in
/-- the end of a round over the slots: the next slot's resident -/
theorem near_any (base : Nat) (W : World) (N n L' j q sh rch S KB PB pc FB SB : Nat) (M1 : Int) (kk κ H sl : Nat → Nat) (hh : Nat → Int)
    (hrs : Row W SB (fun j => .int .u32 (sl j)) (2 * N)) (hrf : Row W FB (fun a => .int .i64 ((fstOf κ a n : Int) - 1)) L') (hrk : Row W KB (fun i => .int .i64 (κ i)) n) (hrp : Row W PB (fun i => ptr (kk i)) L')
    (hpo : Pool base L' kk hh W) (hc1 : W.cell? ⟨S, 1, none⟩ = some (.int .u8 sh)) (hta : Tab N n κ H sl rch) (hka : ∀ i, κ i < L') (hhb : ∀ i, 0 ≤ hh i ∧ hh i < 18446744073709551616)
    (hh1 : ∀ a, hh a / 2 ^ min sh 64 = (H a : Int)) (hNle : N ≤ 256) (hNp : 0 < N) (hnN : n ≤ N) (_hL16 : L' ≤ 16) (hsh : sh ≤ 63)
    (had : ∀ j h : Nat, bits .and .u64 (IntKind.u64.wrap ((j : Int) - h)) M1 = ((dst N j h : Nat) : Int)) (han : ∀ j : Nat, j < 2 * N → bits .and .u64 ((j : Int) + 1) M1 = (((j + 1) % (2 * N) : Nat) : Int))
    (hj : j < 2 * N) (hq : sl j = q + 1) (J : Act → World → Prop) (Q0 : Exit → Act → World → Prop) {v0 v1 v2 v3 v4 v5 v6 v7 v8 v9 v10 v11 v13 v16 v17 v18 v19 v21 v23 v24 v25 v26 v27 v28 v29 v30 v31 v34 v35 v36 v37 v39 v41 v43 v44 v45 v46 v47 v48 v49 v50 v51 v52 v53 v54 v55 v56 v57 v58 v59 v60 v61 v62 v63 v64 v65 v66 v67 v68 v69 v70 v71 v72 v73 v74 v75 v76 v77 v78 v79 v80 v81 v82 v83 v84 v85 v86 v87 v88 v89 v90 v91 v92 v93 v94 v95 v96 v97 v98 v99 v100 v101 v102 v103 v104 v105 v106 v107 v108 v109 v110 v111 v112 v113 v114 v115 v116 v117 v118 v119 v120 v121 v122 v123 v124 v125 v126 v127 v128 v129 v130 v131 v132 v133 v134 v135 v136 v137 v138 v139 v140 v141 v142 v143 v144 v145 v146 v147 v148 v149 v150 v151 v152 v153 v154 v155 v156 v157 v158 v159 v160 v161 v162 v163 v164 v165 v166 v167 v168 v169 v170 v171 v172 v173 v174 v175 v176 v177 v178 v179 v180 v181 v182 v183 v184 v185 v186 v187 v188 v189 v190 v191 v192 v193 v194 v195 v196 v197 v198 v199 v200 v201 v202 v203 v204 v205 v206 v207 v208 v209 v210 v211 v212 v213 v214 v215 v216 v217 v218 v219 v220 v221 v222 v223 v224 v225 v226 v227 v228 v229 v230 v231 v232 v233 v234 v235 v236 v237 v238 v239 v240 v241 v242 v243 v244 v245 v246 v247 v248 v249 v250 v251 v252 v253 v254 v255 v256 v257 v258 v259 v260 v261 v262 v263 v264 v265 v266 v267 v268 v269 v270 v271 v272 v273 v274 v275 v276 v277 v278 v279 v280 v281 v282 v283 v284 v285 v286 v287 v288 v289 v290 v291 v292 v293 v294 v295 v296 v297 v298 v299 v300 v301 v302 v303 v304 v305 v306 v307 v308 v309 v310 v311 v312 v313 v314 v315 v316 v317 v318 v319 v320 v321 v322 v323 v324 v325 v326 v327 v328 v329 v330 v331 v332 v333 v334 v335 v336 v337 v338 v339 v340 v341 v342 v343 v344 v345 v346 v347 v348 v349 v350 v351 v352 v353 v354 v355 v356 v357 v358 v359 v360 v361 v362 v363 v364 v365 v366 v367 v368 v369 v370 v371 v372 v373 v374 v375 v376 v377 v378 v379 v380 v381 v382 v383 v384 v385 v386 v387 v388 v389 v390 v391 v392 v393 v394 v395 v396 v397 v398 v399 v400 v401 v402 v403 v404 v405 v406 v407 v408 v409 v410 v411 v412 v413 v414 v415 v416 v417 v418 v419 v420 v421 v422 v423 v424 v425 v426 v427 v428 v429 v430 v431 v432 v433 v434 v435 v436 v437 v438 v439 v440 v441 v442 v443 v444 v445 v446 v447 v448 v449 v450 v451 v452 v453 v454 v455 v456 v457 v458 v459 v460 v461 v462 v463 v464 v465 v466 v467 v468 v469 v470 v471 v472 v473 v474 v475 v476 v477 v478 v479 v480 v481 v482 v483 v484 v485 v486 v487 v488 v489 v490 v491 v492 v493 v494 v495 v496 v497 v498 v499 v500 v501 v502 v503 v504 v505 v506 v507 v508 v509 : Value}
    (hJ : ∀ {x44 x45 x46 x47 x48 x413 x414 x415 x416 x417 x418 x419 x420 x421 x422 x423 x424 x425 x426 x427 x428 x429 x430 x431 x432 x433 x434 x435 x436 x437 x438 x439 x440 x441 x442 x443 x444 x445 x446 x447 x448 x449 x450 x451 x452 x453 x454 x455 x456 x457 x458 x459 x460 x461 x462 x463 x464 x465 x466 x467 x468 x469 x470 x471 x472 x473 x474 x475 x476 x477 x478 : Value} (W' : World), Only W W' (fun _ => False) → J
      ⟨#[v0, v1, v2, v3, v4, v5, v6, v7, v8, v9, v10, v11, .slice (some ⟨PB, 0, none⟩) L' pc, v13, .int .i64 n, .slice (some ⟨KB, 0, none⟩) n n, v16, v17, v18, v19, .pointer (some ⟨S, 0, none⟩), v21, .slice (some ⟨FB, 0, none⟩) L' L', v23, v24, v25, v26, v27, v28, v29, v30, v31, .int .u64 M1, .slice (some ⟨SB, 0, none⟩) (2 * N) (2 * N), v34, v35, v36, v37, .int .i64 j, v39, .int .i64 q, v41, .int .u64 (dst N j (H (κ q)) : Nat), v43, x44, x45, x46, x47, x48, v49, v50, v51, v52, v53, v54, v55, v56, v57, v58, v59, v60, v61, v62, v63, v64, v65, v66, v67, v68, v69, v70, v71, v72, v73, v74, v75, v76, v77, v78, v79, v80, v81, v82, v83, v84, v85, v86, v87, v88, v89, v90, v91, v92, v93, v94, v95, v96, v97, v98, v99, v100, v101, v102, v103, v104, v105, v106, v107, v108, v109, v110, v111, v112, v113, v114, v115, v116, v117, v118, v119, v120, v121, v122, v123, v124, v125, v126, v127, v128, v129, v130, v131, v132, v133, v134, v135, v136, v137, v138, v139, v140, v141, v142, v143, v144, v145, v146, v147, v148, v149, v150, v151, v152, v153, v154, v155, v156, v157, v158, v159, v160, v161, v162, v163, v164, v165, v166, v167, v168, v169, v170, v171, v172, v173, v174, v175, v176, v177, v178, v179, v180, v181, v182, v183, v184, v185, v186, v187, v188, v189, v190, v191, v192, v193, v194, v195, v196, v197, v198, v199, v200, v201, v202, v203, v204, v205, v206, v207, v208, v209, v210, v211, v212, v213, v214, v215, v216, v217, v218, v219, v220, v221, v222, v223, v224, v225, v226, v227, v228, v229, v230, v231, v232, v233, v234, v235, v236, v237, v238, v239, v240, v241, v242, v243, v244, v245, v246, v247, v248, v249, v250, v251, v252, v253, v254, v255, v256, v257, v258, v259, v260, v261, v262, v263, v264, v265, v266, v267, v268, v269, v270, v271, v272, v273, v274, v275, v276, v277, v278, v279, v280, v281, v282, v283, v284, v285, v286, v287, v288, v289, v290, v291, v292, v293, v294, v295, v296, v297, v298, v299, v300, v301, v302, v303, v304, v305, v306, v307, v308, v309, v310, v311, v312, v313, v314, v315, v316, v317, v318, v319, v320, v321, v322, v323, v324, v325, v326, v327, v328, v329, v330, v331, v332, v333, v334, v335, v336, v337, v338, v339, v340, v341, v342, v343, v344, v345, v346, v347, v348, v349, v350, v351, v352, v353, v354, v355, v356, v357, v358, v359, v360, v361, v362, v363, v364, v365, v366, v367, v368, v369, v370, v371, v372, v373, v374, v375, v376, v377, v378, v379, v380, v381, v382, v383, v384, v385, v386, v387, v388, v389, v390, v391, v392, v393, v394, v395, v396, v397, v398, v399, v400, v401, v402, v403, v404, v405, v406, v407, v408, v409, v410, v411, v412, x413, x414, x415, x416, x417, x418, x419, x420, x421, x422, x423, x424, x425, x426, x427, x428, x429, x430, x431, x432, x433, x434, x435, x436, x437, x438, x439, x440, x441, x442, x443, x444, x445, x446, x447, x448, x449, x450, x451, x452, x453, x454, x455, x456, x457, x458, x459, x460, x461, x462, x463, x464, x465, x466, x467, x468, x469, x470, x471, x472, x473, x474, x475, x476, x477, x478, v479, v480, v481, v482, v483, v484, v485, v486, v487, v488, v489, v490, v491, v492, v493, v494, v495, v496, v497, v498, v499, v500, v501, v502, v503, v504, v505, v506, v507, v508, v509], []⟩ W') :
    Code.wp Yba.prog (dropSeq 10 ((findBlock 17 (Yba.f4.body.getD .skip)).getD .skip)) (Exit.inBlock 17 (Exit.then J Q0))
      ⟨#[v0, v1, v2, v3, v4, v5, v6, v7, v8, v9, v10, v11, .slice (some ⟨PB, 0, none⟩) L' pc, v13, .int .i64 n, .slice (some ⟨KB, 0, none⟩) n n, v16, v17, v18, v19, .pointer (some ⟨S, 0, none⟩), v21, .slice (some ⟨FB, 0, none⟩) L' L', v23, v24, v25, v26, v27, v28, v29, v30, v31, .int .u64 M1, .slice (some ⟨SB, 0, none⟩) (2 * N) (2 * N), v34, v35, v36, v37, .int .i64 j, v39, .int .i64 q, v41, .int .u64 (dst N j (H (κ q)) : Nat), v43, v44, v45, v46, v47, v48, v49, v50, v51, v52, v53, v54, v55, v56, v57, v58, v59, v60, v61, v62, v63, v64, v65, v66, v67, v68, v69, v70, v71, v72, v73, v74, v75, v76, v77, v78, v79, v80, v81, v82, v83, v84, v85, v86, v87, v88, v89, v90, v91, v92, v93, v94, v95, v96, v97, v98, v99, v100, v101, v102, v103, v104, v105, v106, v107, v108, v109, v110, v111, v112, v113, v114, v115, v116, v117, v118, v119, v120, v121, v122, v123, v124, v125, v126, v127, v128, v129, v130, v131, v132, v133, v134, v135, v136, v137, v138, v139, v140, v141, v142, v143, v144, v145, v146, v147, v148, v149, v150, v151, v152, v153, v154, v155, v156, v157, v158, v159, v160, v161, v162, v163, v164, v165, v166, v167, v168, v169, v170, v171, v172, v173, v174, v175, v176, v177, v178, v179, v180, v181, v182, v183, v184, v185, v186, v187, v188, v189, v190, v191, v192, v193, v194, v195, v196, v197, v198, v199, v200, v201, v202, v203, v204, v205, v206, v207, v208, v209, v210, v211, v212, v213, v214, v215, v216, v217, v218, v219, v220, v221, v222, v223, v224, v225, v226, v227, v228, v229, v230, v231, v232, v233, v234, v235, v236, v237, v238, v239, v240, v241, v242, v243, v244, v245, v246, v247, v248, v249, v250, v251, v252, v253, v254, v255, v256, v257, v258, v259, v260, v261, v262, v263, v264, v265, v266, v267, v268, v269, v270, v271, v272, v273, v274, v275, v276, v277, v278, v279, v280, v281, v282, v283, v284, v285, v286, v287, v288, v289, v290, v291, v292, v293, v294, v295, v296, v297, v298, v299, v300, v301, v302, v303, v304, v305, v306, v307, v308, v309, v310, v311, v312, v313, v314, v315, v316, v317, v318, v319, v320, v321, v322, v323, v324, v325, v326, v327, v328, v329, v330, v331, v332, v333, v334, v335, v336, v337, v338, v339, v340, v341, v342, v343, v344, v345, v346, v347, v348, v349, v350, v351, v352, v353, v354, v355, v356, v357, v358, v359, v360, v361, v362, v363, v364, v365, v366, v367, v368, v369, v370, v371, v372, v373, v374, v375, v376, v377, v378, v379, v380, v381, v382, v383, v384, v385, v386, v387, v388, v389, v390, v391, v392, v393, v394, v395, v396, v397, v398, v399, v400, v401, v402, v403, v404, v405, v406, v407, v408, v409, v410, v411, v412, v413, v414, v415, v416, v417, v418, v419, v420, v421, v422, v423, v424, v425, v426, v427, v428, v429, v430, v431, v432, v433, v434, v435, v436, v437, v438, v439, v440, v441, v442, v443, v444, v445, v446, v447, v448, v449, v450, v451, v452, v453, v454, v455, v456, v457, v458, v459, v460, v461, v462, v463, v464, v465, v466, v467, v468, v469, v470, v471, v472, v473, v474, v475, v476, v477, v478, v479, v480, v481, v482, v483, v484, v485, v486, v487, v488, v489, v490, v491, v492, v493, v494, v495, v496, v497, v498, v499, v500, v501, v502, v503, v504, v505, v506, v507, v508, v509], []⟩ W := by
  have HJ : Hid (∀ {x44 x45 x46 x47 x48 x413 x414 x415 x416 x417 x418 x419 x420 x421 x422 x423 x424 x425 x426 x427 x428 x429 x430 x431 x432 x433 x434 x435 x436 x437 x438 x439 x440 x441 x442 x443 x444 x445 x446 x447 x448 x449 x450 x451 x452 x453 x454 x455 x456 x457 x458 x459 x460 x461 x462 x463 x464 x465 x466 x467 x468 x469 x470 x471 x472 x473 x474 x475 x476 x477 x478 : Value} (W' : World), Only W W' (fun _ => False) → J
      ⟨#[v0, v1, v2, v3, v4, v5, v6, v7, v8, v9, v10, v11, .slice (some ⟨PB, 0, none⟩) L' pc, v13, .int .i64 n, .slice (some ⟨KB, 0, none⟩) n n, v16, v17, v18, v19, .pointer (some ⟨S, 0, none⟩), v21, .slice (some ⟨FB, 0, none⟩) L' L', v23, v24, v25, v26, v27, v28, v29, v30, v31, .int .u64 M1, .slice (some ⟨SB, 0, none⟩) (2 * N) (2 * N), v34, v35, v36, v37, .int .i64 j, v39, .int .i64 q, v41, .int .u64 (dst N j (H (κ q)) : Nat), v43, x44, x45, x46, x47, x48, v49, v50, v51, v52, v53, v54, v55, v56, v57, v58, v59, v60, v61, v62, v63, v64, v65, v66, v67, v68, v69, v70, v71, v72, v73, v74, v75, v76, v77, v78, v79, v80, v81, v82, v83, v84, v85, v86, v87, v88, v89, v90, v91, v92, v93, v94, v95, v96, v97, v98, v99, v100, v101, v102, v103, v104, v105, v106, v107, v108, v109, v110, v111, v112, v113, v114, v115, v116, v117, v118, v119, v120, v121, v122, v123, v124, v125, v126, v127, v128, v129, v130, v131, v132, v133, v134, v135, v136, v137, v138, v139, v140, v141, v142, v143, v144, v145, v146, v147, v148, v149, v150, v151, v152, v153, v154, v155, v156, v157, v158, v159, v160, v161, v162, v163, v164, v165, v166, v167, v168, v169, v170, v171, v172, v173, v174, v175, v176, v177, v178, v179, v180, v181, v182, v183, v184, v185, v186, v187, v188, v189, v190, v191, v192, v193, v194, v195, v196, v197, v198, v199, v200, v201, v202, v203, v204, v205, v206, v207, v208, v209, v210, v211, v212, v213, v214, v215, v216, v217, v218, v219, v220, v221, v222, v223, v224, v225, v226, v227, v228, v229, v230, v231, v232, v233, v234, v235, v236, v237, v238, v239, v240, v241, v242, v243, v244, v245, v246, v247, v248, v249, v250, v251, v252, v253, v254, v255, v256, v257, v258, v259, v260, v261, v262, v263, v264, v265, v266, v267, v268, v269, v270, v271, v272, v273, v274, v275, v276, v277, v278, v279, v280, v281, v282, v283, v284, v285, v286, v287, v288, v289, v290, v291, v292, v293, v294, v295, v296, v297, v298, v299, v300, v301, v302, v303, v304, v305, v306, v307, v308, v309, v310, v311, v312, v313, v314, v315, v316, v317, v318, v319, v320, v321, v322, v323, v324, v325, v326, v327, v328, v329, v330, v331, v332, v333, v334, v335, v336, v337, v338, v339, v340, v341, v342, v343, v344, v345, v346, v347, v348, v349, v350, v351, v352, v353, v354, v355, v356, v357, v358, v359, v360, v361, v362, v363, v364, v365, v366, v367, v368, v369, v370, v371, v372, v373, v374, v375, v376, v377, v378, v379, v380, v381, v382, v383, v384, v385, v386, v387, v388, v389, v390, v391, v392, v393, v394, v395, v396, v397, v398, v399, v400, v401, v402, v403, v404, v405, v406, v407, v408, v409, v410, v411, v412, x413, x414, x415, x416, x417, x418, x419, x420, x421, x422, x423, x424, x425, x426, x427, x428, x429, x430, x431, x432, x433, x434, x435, x436, x437, x438, x439, x440, x441, x442, x443, x444, x445, x446, x447, x448, x449, x450, x451, x452, x453, x454, x455, x456, x457, x458, x459, x460, x461, x462, x463, x464, x465, x466, x467, x468, x469, x470, x471, x472, x473, x474, x475, x476, x477, x478, v479, v480, v481, v482, v483, v484, v485, v486, v487, v488, v489, v490, v491, v492, v493, v494, v495, v496, v497, v498, v499, v500, v501, v502, v503, v504, v505, v506, v507, v508, v509], []⟩ W') := hJ
  clear hJ
  have HTA : Hid (Tab N n κ H sl rch) := hta
  have HKA : Hid (∀ i, κ i < L') := hka
  have HHB : Hid (∀ i, 0 ≤ hh i ∧ hh i < 18446744073709551616) := hhb
  have HH1 : Hid (∀ a, hh a / 2 ^ min sh 64 = (H a : Int)) := hh1
  have HAD : Hid (∀ j h : Nat, bits .and .u64 (IntKind.u64.wrap ((j : Int) - h)) M1 = ((dst N j h : Nat) : Int)) := had
  have HRS : Hid (Row W SB (fun j => .int .u32 (sl j)) (2 * N)) := hrs
  have HRF : Hid (Row W FB (fun a => .int .i64 ((fstOf κ a n : Int) - 1)) L') := hrf
  have HRK : Hid (Row W KB (fun i => .int .i64 (κ i)) n) := hrk
  have HRP : Hid (Row W PB (fun i => ptr (kk i)) L') := hrp
  have HPO : Hid (Pool base L' kk hh W) := hpo
  have hqn : q < n := by have := (hta.newest j hj (by omega)).1; omega
  have hj2 : (j + 1) % (2 * N) < 2 * N := Nat.mod_lt _ (by omega)
  have hbn := han j hj
  have HNX : Hid (sl ((j + 1) % (2 * N)) ≠ 0 → dst N ((j + 1) % (2 * N)) (H (κ (sl ((j + 1) % (2 * N)) - 1))) ≤ dst N j (H (κ q)) + 1 ∧
    (dst N ((j + 1) % (2 * N)) (H (κ (sl ((j + 1) % (2 * N)) - 1))) = dst N j (H (κ q)) + 1 → fstOf κ (κ q) n ≤ fstOf κ (κ (sl ((j + 1) % (2 * N)) - 1)) n)) := fun h2 => by
    have := hta.next hNp j hj (by omega) h2
    rw [hq, Nat.add_sub_cancel] at this
    exact this
  have hDl := dst_lt N j (H (κ q)) hNp
  generalize dst N j (H (κ q)) = D at *
  clear hta hka hhb hh1 had han hrs hrf hrk hrp hpo hq
  generalize (j + 1) % (2 * N) = j2 at *
  have lS : S < W.heap.size := World.block_lt_of_cell? W _ hc1
  have lSB := HRS.out.1
  have hj2I : (j2 : Int) < 2 * N := by omega
  have hjI : (j : Int) < 2 * N := by omega
  show Code.wp Yba.prog (Code.seq _ _) _ _ _
  by_cases h2 : sl j2 = 0
  · have cs : W.cell? ⟨SB, j2, none⟩ = some (.int .u32 0) := (HRS.out.2 j2 hj2).1.trans (by show some (Value.int .u32 ((sl j2 : Nat) : Int)) = _; rw [h2]; rfl)
    clear h2
    go_wp2_with fail
    exact HJ.out _ (Only.refl _ _)
  · obtain ⟨hd2, hf2⟩ := HNX.out h2
    have hn2 := (HTA.out.newest j2 hj2 h2).1
    obtain ⟨q2, hq2⟩ : ∃ q2, sl j2 = q2 + 1 := ⟨_, (Nat.succ_pred_eq_of_ne_zero h2).symm⟩
    rw [hq2, Nat.add_sub_cancel] at hd2 hf2
    have hq2n : q2 < n := by omega
    have hq2I : (q2 : Int) < n := by omega
    have hqI : (q : Int) < n := by omega
    have hqw : IntKind.u32.wrap (q2 : Int) = q2 := by rw [IntKind.wrap_u32]; omega
    have cs : W.cell? ⟨SB, j2, none⟩ = some (.int .u32 ((q2 : Int) + 1)) := (HRS.out.2 j2 hj2).1.trans (by show some (Value.int .u32 ((sl j2 : Nat) : Int)) = _; rw [hq2]; rfl)
    have hκq := HKA.out q
    have hκq2 := HKA.out q2
    have hκI : (κ q : Int) < L' := by omega
    have hκI2 : (κ q2 : Int) < L' := by omega
    have ck : W.cell? ⟨KB, q, none⟩ = some (.int .i64 (κ q)) := (HRK.out.2 q hqn).1
    have ck2 : W.cell? ⟨KB, q2, none⟩ = some (.int .i64 (κ q2)) := (HRK.out.2 q2 hq2n).1
    have cp2 : W.cell? ⟨PB, κ q2, none⟩ = some (ptr (kk (κ q2))) := (HRP.out.2 (κ q2) hκq2).1
    have ch2 : W.cell? ⟨kk (κ q2), 1, none⟩ = some (.int .u64 (hh (κ q2))) := HPO.out.hash (κ q2) hκq2
    have hs2 : hh (κ q2) / 2 ^ sh = (H (κ q2) : Int) := by have := HH1.out (κ q2); rw [Nat.min_eq_left (by omega)] at this; exact this
    obtain ⟨hb0, hb1⟩ := HHB.out (κ q2)
    have hbd := HAD.out j2 (H (κ q2))
    have lK := HRK.out.1
    have lP := HRP.out.1
    have lF := HRF.out.1
    have lk2 := World.block_lt_of_cell? W _ ch2
    obtain ⟨g1, hg1⟩ : ∃ g1 : Int, g1 = (fstOf κ (κ q) n : Int) - 1 := ⟨_, rfl⟩
    obtain ⟨g2, hg2⟩ : ∃ g2 : Int, g2 = (fstOf κ (κ q2) n : Int) - 1 := ⟨_, rfl⟩
    have cf : W.cell? ⟨FB, κ q, none⟩ = some (.int .i64 g1) := (HRF.out.2 (κ q) hκq).1.trans (by show some (Value.int .i64 ((fstOf κ (κ q) n : Int) - 1)) = _; rw [hg1])
    have cf2 : W.cell? ⟨FB, κ q2, none⟩ = some (.int .i64 g2) := (HRF.out.2 (κ q2) hκq2).1.trans (by show some (Value.int .i64 ((fstOf κ (κ q2) n : Int) - 1)) = _; rw [hg2])
    have hg : dst N j2 (H (κ q2)) = D + 1 → ¬ g2 < g1 := fun e => by have := hf2 e; omega
    have hD2l := dst_lt N j2 (H (κ q2)) hNp
    clear hf2 hg1 hg2 hq2 h2 hn2
    generalize dst N j2 (H (κ q2)) = D2 at *
    by_cases heq : D2 = D + 1
    · have hgn := hg heq
      have hgd : decide (g2 < g1) = false := decide_eq_false hgn
      have hbd2 : bits .and .u64 (IntKind.u64.wrap ((j2 : Int) - (H (κ q2) : Int))) M1 = (D : Int) + 1 := by rw [hbd, heq]; rfl
      clear hbd hg heq hd2 hD2l
      have hDI : (D : Int) < 2 * N := by omega
      go_wp2_with fail
      go_quiet (fail)
      have HO : Hid (Only W (W.drewN nq) (fun _ => False)) := (Only.refl _ _).drewN nq
      have ck : (W.drewN nq).cell? ⟨KB, q, none⟩ = some (.int .i64 (κ q)) := ck
      have ck2 : (W.drewN nq).cell? ⟨KB, q2, none⟩ = some (.int .i64 (κ q2)) := ck2
      have cf : (W.drewN nq).cell? ⟨FB, κ q, none⟩ = some (.int .i64 g1) := cf
      have cf2 : (W.drewN nq).cell? ⟨FB, κ q2, none⟩ = some (.int .i64 g2) := cf2
      have lK : KB < (W.drewN nq).heap.size := lK
      have lF : FB < (W.drewN nq).heap.size := lF
      generalize W.drewN nq = W2 at ck ck2 cf cf2 lK lF HO ⊢
      go_wp2_with fail
      go_quiet (fail)
      go_wp2_with fail
      exact HJ.out _ (HO.out.drewN _)
    · have hlt : (D2 : Int) < (D : Int) + 1 := by omega
      have hne : ¬ (D2 : Int) = (D : Int) + 1 := by omega
      have hneb : ((D2 : Int) == (D : Int) + 1) = false := by simpa using hne
      have hngt : ¬ ((D : Int) + 1 < (D2 : Int)) := by omega
      clear hg heq hd2
      have hDI : (D2 : Int) < 2 * N := by omega
      go_wp2_with fail
      go_quiet (fail)
      have HO : Hid (Only W (W.drewN nq) (fun _ => False)) := (Only.refl _ _).drewN nq
      have ck : (W.drewN nq).cell? ⟨KB, q, none⟩ = some (.int .i64 (κ q)) := ck
      have ck2 : (W.drewN nq).cell? ⟨KB, q2, none⟩ = some (.int .i64 (κ q2)) := ck2
      have cf : (W.drewN nq).cell? ⟨FB, κ q, none⟩ = some (.int .i64 g1) := cf
      have cf2 : (W.drewN nq).cell? ⟨FB, κ q2, none⟩ = some (.int .i64 g2) := cf2
      have lK : KB < (W.drewN nq).heap.size := lK
      have lF : FB < (W.drewN nq).heap.size := lF
      generalize W.drewN nq = W2 at ck ck2 cf cf2 lK lF HO ⊢
      go_wp2_with fail
      go_quiet (fail)
      go_wp2_with fail
      exact HJ.out _ (HO.out.drewN _)
end Go.Proofs.Ybulkdoqu
