import Derived.Test.YbulkdoquNear
import Derived.Lib.IfaceNeq
import Derived.Deep.RegionLaw
import Derived.Deep.DeepAppendRoom
import Derived.Deep.RegionHeld3
import Derived.OpenShut
import Derived.Deep.DeepCutAuto
import Derived.Deep.CutBlock
namespace Go.Proofs.Ybulkdoqu
open Go.RowKit Go.ChangeShapes
set_option linter.unusedSimpArgs false

set_option maxRecDepth 1000000 in
set_option maxHeartbeats 2000000 in
/-- a round over the slots from the resident's distance on -/
theorem way_any (base : Nat) (W : World) (N n L' j q sh rch S KB PB pc FB SB : Nat) (M1 : Int) (kk κ H sl : Nat → Nat) (hh : Nat → Int)
    (hrs : Row W SB (fun j => .int .u32 (sl j)) (2 * N)) (hrf : Row W FB (fun a => .int .i64 ((fstOf κ a n : Int) - 1)) L') (hrk : Row W KB (fun i => .int .i64 (κ i)) n) (hrp : Row W PB (fun i => ptr (kk i)) L')
    (hpo : Pool base L' kk hh W) (hc1 : W.cell? ⟨S, 1, none⟩ = some (.int .u8 sh)) (hta : Tab N n κ H sl rch) (hka : ∀ i, κ i < L') (hhb : ∀ i, 0 ≤ hh i ∧ hh i < 18446744073709551616)
    (hh1 : ∀ a, hh a / 2 ^ min sh 64 = (H a : Int)) (hh2 : ∀ a, H a < 2 * N) (hNle : N ≤ 256) (hNp : 0 < N) (hnN : n ≤ N) (hL16 : L' ≤ 16) (hsh : sh ≤ 63)
    (had : ∀ j h : Nat, bits .and .u64 (IntKind.u64.wrap ((j : Int) - h)) M1 = ((dst N j h : Nat) : Int)) (han : ∀ j : Nat, j < 2 * N → bits .and .u64 ((j : Int) + 1) M1 = (((j + 1) % (2 * N) : Nat) : Int))
    (has : ∀ h t : Nat, h + t < 4096 → bits .and .u64 ((h : Int) + t) M1 = (((h + t) % (2 * N) : Nat) : Int))
    (hj : j < 2 * N) (hq : sl j = q + 1) (J : Act → World → Prop) (Q0 : Exit → Act → World → Prop) {v0 v1 v2 v3 v4 v5 v6 v7 v8 v9 v10 v11 v13 v16 v17 v18 v19 v21 v23 v24 v25 v26 v27 v28 v29 v30 v31 v34 v35 v36 v39 v42 v43 v44 v45 v46 v47 v48 v49 v50 v51 v52 v53 v54 v55 v56 v57 v58 v59 v60 v61 v62 v63 v64 v65 v66 v67 v68 v69 v70 v71 v72 v73 v74 v75 v76 v77 v78 v79 v80 v81 v82 v83 v84 v85 v86 v87 v88 v89 v90 v91 v92 v93 v94 v95 v96 v97 v98 v99 v100 v101 v102 v103 v104 v105 v106 v107 v108 v109 v110 v111 v112 v113 v114 v115 v116 v117 v118 v119 v120 v121 v122 v123 v124 v125 v126 v127 v128 v129 v130 v131 v132 v133 v134 v135 v136 v137 v138 v139 v140 v141 v142 v143 v144 v145 v146 v147 v148 v149 v150 v151 v152 v153 v154 v155 v156 v157 v158 v159 v160 v161 v162 v163 v164 v165 v166 v167 v168 v169 v170 v171 v172 v173 v174 v175 v176 v177 v178 v179 v180 v181 v182 v183 v184 v185 v186 v187 v188 v189 v190 v191 v192 v193 v194 v195 v196 v197 v198 v199 v200 v201 v202 v203 v204 v205 v206 v207 v208 v209 v210 v211 v212 v213 v214 v215 v216 v217 v218 v219 v220 v221 v222 v223 v224 v225 v226 v227 v228 v229 v230 v231 v232 v233 v234 v235 v236 v237 v238 v239 v240 v241 v242 v243 v244 v245 v246 v247 v248 v249 v250 v251 v252 v253 v254 v255 v256 v257 v258 v259 v260 v261 v262 v263 v264 v265 v266 v267 v268 v269 v270 v271 v272 v273 v274 v275 v276 v277 v278 v279 v280 v281 v282 v283 v284 v285 v286 v287 v288 v289 v290 v291 v292 v293 v294 v295 v296 v297 v298 v299 v300 v301 v302 v303 v304 v305 v306 v307 v308 v309 v310 v311 v312 v313 v314 v315 v316 v317 v318 v319 v320 v321 v322 v323 v324 v325 v326 v327 v328 v329 v330 v331 v332 v333 v334 v335 v336 v337 v338 v339 v340 v341 v342 v343 v344 v345 v346 v347 v348 v349 v350 v351 v352 v353 v354 v355 v356 v357 v358 v359 v360 v361 v362 v363 v364 v365 v366 v367 v368 v369 v370 v371 v372 v373 v374 v375 v376 v377 v378 v379 v380 v381 v382 v383 v384 v385 v386 v387 v388 v389 v390 v391 v392 v393 v394 v395 v396 v397 v398 v399 v400 v401 v402 v403 v404 v405 v406 v407 v408 v409 v410 v411 v412 v413 v414 v415 v416 v417 v418 v419 v420 v421 v422 v423 v424 v425 v426 v427 v428 v429 v430 v431 v432 v433 v434 v435 v436 v437 v438 v439 v440 v441 v442 v443 v444 v445 v446 v447 v448 v449 v450 v451 v452 v453 v454 v455 v456 v457 v458 v459 v460 v461 v462 v463 v464 v465 v466 v467 v468 v469 v470 v471 v472 v473 v474 v475 v476 v477 v478 v479 v480 v481 v482 v483 v484 v485 v486 v487 v488 v489 v490 v491 v492 v493 v494 v495 v496 v497 v498 v499 v500 v501 v502 v503 v504 v505 v506 v507 v508 v509 : Value}
    (hJ : ∀ {x8 x42 x43 x44 x45 x46 x47 x48 x387 x388 x389 x390 x391 x392 x393 x394 x395 x396 x397 x398 x399 x400 x401 x402 x403 x404 x405 x406 x407 x408 x409 x410 x411 x412 x413 x414 x415 x416 x417 x418 x419 x420 x421 x422 x423 x424 x425 x426 x427 x428 x429 x430 x431 x432 x433 x434 x435 x436 x437 x438 x439 x440 x441 x442 x443 x444 x445 x446 x447 x448 x449 x450 x451 x452 x453 x454 x455 x456 x457 x458 x459 x460 x461 x462 x463 x464 x465 x466 x467 x468 x469 x470 x471 x472 x473 x474 x475 x476 x477 x478 : Value} (W' : World), Only W W' (fun _ => False) → J
      ⟨#[v0, v1, v2, v3, v4, v5, v6, v7, x8, v9, v10, v11, .slice (some ⟨PB, 0, none⟩) L' pc, v13, .int .i64 n, .slice (some ⟨KB, 0, none⟩) n n, v16, v17, v18, v19, .pointer (some ⟨S, 0, none⟩), v21, .slice (some ⟨FB, 0, none⟩) L' L', v23, v24, v25, v26, v27, v28, v29, v30, v31, .int .u64 M1, .slice (some ⟨SB, 0, none⟩) (2 * N) (2 * N), v34, v35, v36, .int .u64 (mxr N sl κ H (j + 1) : Nat), .int .i64 j, v39, .int .i64 q, .int .u64 (H (κ q) : Nat), x42, x43, x44, x45, x46, x47, x48, v49, v50, v51, v52, v53, v54, v55, v56, v57, v58, v59, v60, v61, v62, v63, v64, v65, v66, v67, v68, v69, v70, v71, v72, v73, v74, v75, v76, v77, v78, v79, v80, v81, v82, v83, v84, v85, v86, v87, v88, v89, v90, v91, v92, v93, v94, v95, v96, v97, v98, v99, v100, v101, v102, v103, v104, v105, v106, v107, v108, v109, v110, v111, v112, v113, v114, v115, v116, v117, v118, v119, v120, v121, v122, v123, v124, v125, v126, v127, v128, v129, v130, v131, v132, v133, v134, v135, v136, v137, v138, v139, v140, v141, v142, v143, v144, v145, v146, v147, v148, v149, v150, v151, v152, v153, v154, v155, v156, v157, v158, v159, v160, v161, v162, v163, v164, v165, v166, v167, v168, v169, v170, v171, v172, v173, v174, v175, v176, v177, v178, v179, v180, v181, v182, v183, v184, v185, v186, v187, v188, v189, v190, v191, v192, v193, v194, v195, v196, v197, v198, v199, v200, v201, v202, v203, v204, v205, v206, v207, v208, v209, v210, v211, v212, v213, v214, v215, v216, v217, v218, v219, v220, v221, v222, v223, v224, v225, v226, v227, v228, v229, v230, v231, v232, v233, v234, v235, v236, v237, v238, v239, v240, v241, v242, v243, v244, v245, v246, v247, v248, v249, v250, v251, v252, v253, v254, v255, v256, v257, v258, v259, v260, v261, v262, v263, v264, v265, v266, v267, v268, v269, v270, v271, v272, v273, v274, v275, v276, v277, v278, v279, v280, v281, v282, v283, v284, v285, v286, v287, v288, v289, v290, v291, v292, v293, v294, v295, v296, v297, v298, v299, v300, v301, v302, v303, v304, v305, v306, v307, v308, v309, v310, v311, v312, v313, v314, v315, v316, v317, v318, v319, v320, v321, v322, v323, v324, v325, v326, v327, v328, v329, v330, v331, v332, v333, v334, v335, v336, v337, v338, v339, v340, v341, v342, v343, v344, v345, v346, v347, v348, v349, v350, v351, v352, v353, v354, v355, v356, v357, v358, v359, v360, v361, v362, v363, v364, v365, v366, v367, v368, v369, v370, v371, v372, v373, v374, v375, v376, v377, v378, v379, v380, v381, v382, v383, v384, v385, v386, x387, x388, x389, x390, x391, x392, x393, x394, x395, x396, x397, x398, x399, x400, x401, x402, x403, x404, x405, x406, x407, x408, x409, x410, x411, x412, x413, x414, x415, x416, x417, x418, x419, x420, x421, x422, x423, x424, x425, x426, x427, x428, x429, x430, x431, x432, x433, x434, x435, x436, x437, x438, x439, x440, x441, x442, x443, x444, x445, x446, x447, x448, x449, x450, x451, x452, x453, x454, x455, x456, x457, x458, x459, x460, x461, x462, x463, x464, x465, x466, x467, x468, x469, x470, x471, x472, x473, x474, x475, x476, x477, x478, v479, v480, v481, v482, v483, v484, v485, v486, v487, v488, v489, v490, v491, v492, v493, v494, v495, v496, v497, v498, v499, v500, v501, v502, v503, v504, v505, v506, v507, v508, v509], []⟩ W') :
    Code.wp Yba.prog (dropSeq 7 ((findBlock 17 (Yba.f4.body.getD .skip)).getD .skip)) (Exit.inBlock 17 (Exit.then J Q0))
      ⟨#[v0, v1, v2, v3, v4, v5, v6, v7, v8, v9, v10, v11, .slice (some ⟨PB, 0, none⟩) L' pc, v13, .int .i64 n, .slice (some ⟨KB, 0, none⟩) n n, v16, v17, v18, v19, .pointer (some ⟨S, 0, none⟩), v21, .slice (some ⟨FB, 0, none⟩) L' L', v23, v24, v25, v26, v27, v28, v29, v30, v31, .int .u64 M1, .slice (some ⟨SB, 0, none⟩) (2 * N) (2 * N), v34, v35, v36, .int .u64 (mxr N sl κ H j : Nat), .int .i64 j, v39, .int .i64 q, .int .u64 (H (κ q) : Nat), v42, v43, v44, v45, v46, v47, v48, v49, v50, v51, v52, v53, v54, v55, v56, v57, v58, v59, v60, v61, v62, v63, v64, v65, v66, v67, v68, v69, v70, v71, v72, v73, v74, v75, v76, v77, v78, v79, v80, v81, v82, v83, v84, v85, v86, v87, v88, v89, v90, v91, v92, v93, v94, v95, v96, v97, v98, v99, v100, v101, v102, v103, v104, v105, v106, v107, v108, v109, v110, v111, v112, v113, v114, v115, v116, v117, v118, v119, v120, v121, v122, v123, v124, v125, v126, v127, v128, v129, v130, v131, v132, v133, v134, v135, v136, v137, v138, v139, v140, v141, v142, v143, v144, v145, v146, v147, v148, v149, v150, v151, v152, v153, v154, v155, v156, v157, v158, v159, v160, v161, v162, v163, v164, v165, v166, v167, v168, v169, v170, v171, v172, v173, v174, v175, v176, v177, v178, v179, v180, v181, v182, v183, v184, v185, v186, v187, v188, v189, v190, v191, v192, v193, v194, v195, v196, v197, v198, v199, v200, v201, v202, v203, v204, v205, v206, v207, v208, v209, v210, v211, v212, v213, v214, v215, v216, v217, v218, v219, v220, v221, v222, v223, v224, v225, v226, v227, v228, v229, v230, v231, v232, v233, v234, v235, v236, v237, v238, v239, v240, v241, v242, v243, v244, v245, v246, v247, v248, v249, v250, v251, v252, v253, v254, v255, v256, v257, v258, v259, v260, v261, v262, v263, v264, v265, v266, v267, v268, v269, v270, v271, v272, v273, v274, v275, v276, v277, v278, v279, v280, v281, v282, v283, v284, v285, v286, v287, v288, v289, v290, v291, v292, v293, v294, v295, v296, v297, v298, v299, v300, v301, v302, v303, v304, v305, v306, v307, v308, v309, v310, v311, v312, v313, v314, v315, v316, v317, v318, v319, v320, v321, v322, v323, v324, v325, v326, v327, v328, v329, v330, v331, v332, v333, v334, v335, v336, v337, v338, v339, v340, v341, v342, v343, v344, v345, v346, v347, v348, v349, v350, v351, v352, v353, v354, v355, v356, v357, v358, v359, v360, v361, v362, v363, v364, v365, v366, v367, v368, v369, v370, v371, v372, v373, v374, v375, v376, v377, v378, v379, v380, v381, v382, v383, v384, v385, v386, v387, v388, v389, v390, v391, v392, v393, v394, v395, v396, v397, v398, v399, v400, v401, v402, v403, v404, v405, v406, v407, v408, v409, v410, v411, v412, v413, v414, v415, v416, v417, v418, v419, v420, v421, v422, v423, v424, v425, v426, v427, v428, v429, v430, v431, v432, v433, v434, v435, v436, v437, v438, v439, v440, v441, v442, v443, v444, v445, v446, v447, v448, v449, v450, v451, v452, v453, v454, v455, v456, v457, v458, v459, v460, v461, v462, v463, v464, v465, v466, v467, v468, v469, v470, v471, v472, v473, v474, v475, v476, v477, v478, v479, v480, v481, v482, v483, v484, v485, v486, v487, v488, v489, v490, v491, v492, v493, v494, v495, v496, v497, v498, v499, v500, v501, v502, v503, v504, v505, v506, v507, v508, v509], []⟩ W := by
  have HJ : Hid (∀ {x8 x42 x43 x44 x45 x46 x47 x48 x387 x388 x389 x390 x391 x392 x393 x394 x395 x396 x397 x398 x399 x400 x401 x402 x403 x404 x405 x406 x407 x408 x409 x410 x411 x412 x413 x414 x415 x416 x417 x418 x419 x420 x421 x422 x423 x424 x425 x426 x427 x428 x429 x430 x431 x432 x433 x434 x435 x436 x437 x438 x439 x440 x441 x442 x443 x444 x445 x446 x447 x448 x449 x450 x451 x452 x453 x454 x455 x456 x457 x458 x459 x460 x461 x462 x463 x464 x465 x466 x467 x468 x469 x470 x471 x472 x473 x474 x475 x476 x477 x478 : Value} (W' : World), Only W W' (fun _ => False) → J
      ⟨#[v0, v1, v2, v3, v4, v5, v6, v7, x8, v9, v10, v11, .slice (some ⟨PB, 0, none⟩) L' pc, v13, .int .i64 n, .slice (some ⟨KB, 0, none⟩) n n, v16, v17, v18, v19, .pointer (some ⟨S, 0, none⟩), v21, .slice (some ⟨FB, 0, none⟩) L' L', v23, v24, v25, v26, v27, v28, v29, v30, v31, .int .u64 M1, .slice (some ⟨SB, 0, none⟩) (2 * N) (2 * N), v34, v35, v36, .int .u64 (mxr N sl κ H (j + 1) : Nat), .int .i64 j, v39, .int .i64 q, .int .u64 (H (κ q) : Nat), x42, x43, x44, x45, x46, x47, x48, v49, v50, v51, v52, v53, v54, v55, v56, v57, v58, v59, v60, v61, v62, v63, v64, v65, v66, v67, v68, v69, v70, v71, v72, v73, v74, v75, v76, v77, v78, v79, v80, v81, v82, v83, v84, v85, v86, v87, v88, v89, v90, v91, v92, v93, v94, v95, v96, v97, v98, v99, v100, v101, v102, v103, v104, v105, v106, v107, v108, v109, v110, v111, v112, v113, v114, v115, v116, v117, v118, v119, v120, v121, v122, v123, v124, v125, v126, v127, v128, v129, v130, v131, v132, v133, v134, v135, v136, v137, v138, v139, v140, v141, v142, v143, v144, v145, v146, v147, v148, v149, v150, v151, v152, v153, v154, v155, v156, v157, v158, v159, v160, v161, v162, v163, v164, v165, v166, v167, v168, v169, v170, v171, v172, v173, v174, v175, v176, v177, v178, v179, v180, v181, v182, v183, v184, v185, v186, v187, v188, v189, v190, v191, v192, v193, v194, v195, v196, v197, v198, v199, v200, v201, v202, v203, v204, v205, v206, v207, v208, v209, v210, v211, v212, v213, v214, v215, v216, v217, v218, v219, v220, v221, v222, v223, v224, v225, v226, v227, v228, v229, v230, v231, v232, v233, v234, v235, v236, v237, v238, v239, v240, v241, v242, v243, v244, v245, v246, v247, v248, v249, v250, v251, v252, v253, v254, v255, v256, v257, v258, v259, v260, v261, v262, v263, v264, v265, v266, v267, v268, v269, v270, v271, v272, v273, v274, v275, v276, v277, v278, v279, v280, v281, v282, v283, v284, v285, v286, v287, v288, v289, v290, v291, v292, v293, v294, v295, v296, v297, v298, v299, v300, v301, v302, v303, v304, v305, v306, v307, v308, v309, v310, v311, v312, v313, v314, v315, v316, v317, v318, v319, v320, v321, v322, v323, v324, v325, v326, v327, v328, v329, v330, v331, v332, v333, v334, v335, v336, v337, v338, v339, v340, v341, v342, v343, v344, v345, v346, v347, v348, v349, v350, v351, v352, v353, v354, v355, v356, v357, v358, v359, v360, v361, v362, v363, v364, v365, v366, v367, v368, v369, v370, v371, v372, v373, v374, v375, v376, v377, v378, v379, v380, v381, v382, v383, v384, v385, v386, x387, x388, x389, x390, x391, x392, x393, x394, x395, x396, x397, x398, x399, x400, x401, x402, x403, x404, x405, x406, x407, x408, x409, x410, x411, x412, x413, x414, x415, x416, x417, x418, x419, x420, x421, x422, x423, x424, x425, x426, x427, x428, x429, x430, x431, x432, x433, x434, x435, x436, x437, x438, x439, x440, x441, x442, x443, x444, x445, x446, x447, x448, x449, x450, x451, x452, x453, x454, x455, x456, x457, x458, x459, x460, x461, x462, x463, x464, x465, x466, x467, x468, x469, x470, x471, x472, x473, x474, x475, x476, x477, x478, v479, v480, v481, v482, v483, v484, v485, v486, v487, v488, v489, v490, v491, v492, v493, v494, v495, v496, v497, v498, v499, v500, v501, v502, v503, v504, v505, v506, v507, v508, v509], []⟩ W') := hJ
  clear hJ
  have HTA : Hid (Tab N n κ H sl rch) := hta
  have HKA : Hid (∀ i, κ i < L') := hka
  have HHB : Hid (∀ i, 0 ≤ hh i ∧ hh i < 18446744073709551616) := hhb
  have HH1 : Hid (∀ a, hh a / 2 ^ min sh 64 = (H a : Int)) := hh1
  have HAD : Hid (∀ j h : Nat, bits .and .u64 (IntKind.u64.wrap ((j : Int) - h)) M1 = ((dst N j h : Nat) : Int)) := had
  have HAN : Hid (∀ j : Nat, j < 2 * N → bits .and .u64 ((j : Int) + 1) M1 = (((j + 1) % (2 * N) : Nat) : Int)) := han
  have HAS : Hid (∀ h t : Nat, h + t < 4096 → bits .and .u64 ((h : Int) + t) M1 = (((h + t) % (2 * N) : Nat) : Int)) := has
  have HRS : Hid (Row W SB (fun j => .int .u32 (sl j)) (2 * N)) := hrs
  have HRF : Hid (Row W FB (fun a => .int .i64 ((fstOf κ a n : Int) - 1)) L') := hrf
  have HRK : Hid (Row W KB (fun i => .int .i64 (κ i)) n) := hrk
  have HRP : Hid (Row W PB (fun i => ptr (kk i)) L') := hrp
  have HPO : Hid (Pool base L' kk hh W) := hpo
  have HQ : Hid (sl j = q + 1) := hq
  have HWK : Hid (∀ t, t ≤ dst N j (H (κ q)) → sl ((H (κ q) + t) % (2 * N)) ≠ 0) := fun t ht => by
    have := hta.walk hNp hh2 j hj (by omega) t
    rw [hq, Nat.add_sub_cancel] at this
    exact this ht
  have HMX : Hid (mxr N sl κ H (j + 1) = if mxr N sl κ H j < dst N j (H (κ q)) + 1 then dst N j (H (κ q)) + 1 else mxr N sl κ H j) := by
    show (if sl j = 0 then _ else _) = _
    rw [if_neg (by omega), hq, Nat.add_sub_cancel]
  have hmxl := mxr_le N sl κ H hNp j
  have hDl := dst_lt N j (H (κ q)) hNp
  have hHl := hh2 (κ q)
  have hbd := HAD.out j (H (κ q))
  clear hta hka hhb hh1 hh2 had han has hrs hrf hrk hrp hpo hq
  have hjI : (j : Int) < 2 * N := by omega
  show Code.wp Yba.prog (Code.seq _ _) _ _ _
  go_upto_if 396 with fail
  clear hbd
  go_cut [37] from 396 to 398 (fun mx wc' => mx = .int .u64 (mxr N sl κ H (j + 1) : Nat) ∧ wc' = W)
  case first =>
    by_cases hlt : mxr N sl κ H j < dst N j (H (κ q)) + 1
    · have hm := HMX.out
      rw [if_pos hlt] at hm
      have HM : Hid (mxr N sl κ H (j + 1) = dst N j (H (κ q)) + 1) := hm
      clear hm HMX
      have hltI : ((mxr N sl κ H j : Nat) : Int) < ((dst N j (H (κ q)) : Nat) : Int) + 1 := by omega
      go_wp2_with fail
      go_meet
      case rel => exact ⟨by rw [HM.out]; rfl, rfl⟩
    · have hm := HMX.out
      rw [if_neg hlt] at hm
      have HM : Hid (mxr N sl κ H (j + 1) = mxr N sl κ H j) := hm
      clear hm HMX
      have hltI : ¬ ((mxr N sl κ H j : Nat) : Int) < ((dst N j (H (κ q)) : Nat) : Int) + 1 := by omega
      have hltb : decide (((mxr N sl κ H j : Nat) : Int) < ((dst N j (H (κ q)) : Nat) : Int) + 1) = false := decide_eq_false hltI
      go_wp2_with fail
      go_meet
      case rel => exact ⟨by rw [HM.out], rfl⟩
  obtain ⟨rfl, rfl⟩ := hcut
  go_upto_block 18 with fail
  go_cut [43] from 399 to 412 (fun t wc' => wc' = wc)
  case first =>
    go_wp2_with fail
    go_loopw [43] (fun t wr => ∃ u : Nat, t = .int .u64 u ∧ u ≤ dst N j (H (κ q)) + 1 ∧ wr = wc) (fun t _ => dst N j (H (κ q)) + 1 - (intOf t).toNat)
    case atStart => exact ⟨0, rfl, Nat.zero_le _, rfl⟩
    case round =>
      obtain ⟨u, rfl, hu, rfl⟩ := hrel
      by_cases hle : u ≤ dst N j (H (κ q))
      · have h0 := HWK.out u hle
        have hb := HAS.out (H (κ q)) u (by omega)
        have hp : (H (κ q) + u) % (2 * N) < 2 * N := Nat.mod_lt _ (by omega)
        generalize (H (κ q) + u) % (2 * N) = p at *
        obtain ⟨y, hy⟩ : ∃ y, sl p = y + 1 := ⟨_, (Nat.succ_pred_eq_of_ne_zero h0).symm⟩
        have cs : wr.cell? ⟨SB, p, none⟩ = some (.int .u32 ((y : Int) + 1)) := (HRS.out.2 p hp).1.trans (by show some (Value.int .u32 ((sl p : Nat) : Int)) = _; rw [hy]; rfl)
        have lS := HRS.out.1
        have hyn := HTA.out.sl_le p hp
        have hyI : ¬ (y : Int) + 1 = 0 := by omega
        have hyb : ((y : Int) + 1 == 0) = false := by simpa using hyI
        have hpI : (p : Int) < 2 * N := by omega
        clear h0
        generalize dst N j (H (κ q)) = D at *
        have huI : (u : Int) ≤ D := by omega
        go_wp2_with fail
        go_roundw
        case rel => exact ⟨u + 1, by go_num, by omega, by first | rfl | trivial⟩
        case measure => simp [intOf]; omega
      · have huI : ¬ (u : Int) ≤ (dst N j (H (κ q)) : Nat) := by omega
        generalize dst N j (H (κ q)) = D at *
        go_wp2_with fail
        go_meet
        case rel => first | rfl | trivial
  obtain rfl := hcut
  go_step
  exact near_any base wc N n L' j q sh rch S KB PB pc FB SB M1 kk κ H sl hh HRS.out HRF.out HRK.out HRP.out HPO.out hc1 HTA.out HKA.out HHB.out HH1.out hNle hNp hnN hL16 hsh HAD.out HAN.out hj HQ.out _ _ (fun W' h => HJ.out W' h)
end Go.Proofs.Ybulkdoqu
