import Derived.Test.YbulkdoquWay
import Derived.Test.YbulkdoquFin
import Derived.Lib.IfaceNeq
import Derived.Deep.RegionLaw
import Derived.Deep.DeepAppendRoom
import Derived.Deep.RegionHeld3
import Derived.OpenShut
import Derived.Deep.DeepCutAuto
import Derived.Deep.CutBlock
namespace Go.Proofs.Ybulkdoqu
open Go.RowKit Go.ChangeShapes
set_option linter.unusedSimpArgs false

theorem upOnly {B : Nat} {a b : World} (h : Below B a b) : Only a b (fun k => B ≤ k) := ⟨h.os, h.tape, h.output, h.size, fun k _ hn => h.block k (by omega)⟩

set_option maxRecDepth 1000000 in
set_option maxHeartbeats 4000000 in
theorem tail_any (base : Nat) (w wc : World) (N n L' k1 sh rch S B KB PB pc FB LB SB : Nat) (kk κ H sl : Nat → Nat) (hh : Nat → Int) (vl : Nat → Value)
    (hrs : Row wc SB (fun j => .int .u32 (sl j)) (2 * N)) (hrf : Row wc FB (fun a => .int .i64 ((fstOf κ a n : Int) - 1)) L') (hrl : Row wc LB (fun a => .int .i64 ((lastOf κ a n : Int) - 1)) L')
    (hrk : Row wc KB (fun i => .int .i64 (κ i)) n) (hrp : Row wc PB (fun i => ptr (kk i)) L') (hpo : Pool base L' kk hh wc)
    (hme : Mem S B N sh n rch (fun q => kk (κ q)) vl (pvOf κ n) (kyOf κ n) sl wc) (hta : Tab N n κ H sl rch) (hbw : Below base w wc)
    (hka : ∀ i, κ i < L') (hhb : ∀ i, 0 ≤ hh i ∧ hh i < 18446744073709551616) (hh1 : ∀ a, hh a / 2 ^ min sh 64 = (H a : Int)) (hh2 : ∀ a, H a < 2 * N)
    (hNle : N ≤ 256) (hNp : 0 < N) (hk1 : 2 * N = 2 ^ k1) (hnN : n ≤ N) (hL16 : L' ≤ 16) (hsh : sh ≤ 63) (hbs : base ≤ wc.heap.size)
    {v0 v1 v2 v3 v4 v5 v6 v7 v8 v9 v10 v11 v13 v16 v17 v18 v19 v21 v23 v25 v27 v28 v29 v30 v34 v35 v36 v37 v38 v39 v40 v41 v42 v43 v44 v45 v46 v47 v48 v49 v50 v51 v52 v53 v54 v55 v56 v57 v58 v59 v60 v61 v62 v63 v64 v65 v66 v67 v68 v69 v70 v71 v72 v73 v74 v75 v76 v77 v78 v79 v80 v81 v82 v83 v84 v85 v86 v87 v88 v89 v90 v91 v92 v93 v94 v95 v96 v97 v98 v99 v100 v101 v102 v103 v104 v105 v106 v107 v108 v109 v110 v111 v112 v113 v114 v115 v116 v117 v118 v119 v120 v121 v122 v123 v124 v125 v126 v127 v128 v129 v130 v131 v132 v133 v134 v135 v136 v137 v138 v139 v140 v141 v142 v143 v144 v145 v146 v147 v148 v149 v150 v151 v152 v153 v154 v155 v156 v157 v158 v159 v160 v161 v162 v163 v164 v165 v166 v167 v168 v169 v170 v171 v172 v173 v174 v175 v176 v177 v178 v179 v180 v181 v182 v183 v184 v185 v186 v187 v188 v189 v190 v191 v192 v193 v194 v195 v196 v197 v198 v199 v200 v201 v202 v203 v204 v205 v206 v207 v208 v209 v210 v211 v212 v213 v214 v215 v216 v217 v218 v219 v220 v221 v222 v223 v224 v225 v226 v227 v228 v229 v230 v231 v232 v233 v234 v235 v236 v237 v238 v239 v240 v241 v242 v243 v244 v245 v246 v247 v248 v249 v250 v251 v252 v253 v254 v255 v256 v257 v258 v259 v260 v261 v262 v263 v264 v265 v266 v267 v268 v269 v270 v271 v272 v273 v274 v275 v276 v277 v278 v279 v280 v281 v282 v283 v284 v285 v286 v287 v288 v289 v290 v291 v292 v293 v294 v295 v296 v297 v298 v299 v300 v301 v302 v303 v304 v305 v306 v307 v308 v309 v310 v311 v312 v313 v314 v315 v316 v317 v318 v319 v320 v321 v322 v323 v324 v325 v326 v327 v328 v329 v330 v331 v332 v333 v334 v335 v336 v337 v338 v339 v340 v341 v342 v343 v344 v345 v346 v347 v348 v349 v350 v351 v352 v353 v354 v355 v356 v357 v358 v359 v360 v361 v362 v363 v364 v365 v366 v367 v368 v369 v370 v371 v372 v373 v374 v375 v376 v377 v378 v379 v380 v381 v382 v383 v384 v385 v386 v387 v388 v389 v390 v391 v392 v393 v394 v395 v396 v397 v398 v399 v400 v401 v402 v403 v404 v405 v406 v407 v408 v409 v410 v411 v412 v413 v414 v415 v416 v417 v418 v419 v420 v421 v422 v423 v424 v425 v426 v427 v428 v429 v430 v431 v432 v433 v434 v435 v436 v437 v438 v439 v440 v441 v442 v443 v444 v445 v446 v447 v448 v449 v450 v451 v452 v453 v454 v455 v456 v457 v458 v459 v460 v461 v462 v463 v464 v465 v466 v467 v468 v469 v470 v471 v472 v473 v474 v475 v476 v477 v478 v479 v480 v481 v482 v483 v484 v485 v486 v487 v488 v489 v490 v491 v492 v493 v494 v495 v496 v497 v498 v499 v500 v501 v502 v503 v504 v505 v506 v507 v508 v509 : Value} :
    Code.wp Yba.prog (dropSeq 28 (Yba.f4.body.getD .skip)) (bodyPost Yba.prog Yba.f4 fun e w' => e = .returned (.bool true) ∧ Below base w w')
      ⟨#[v0, v1, v2, v3, v4, v5, v6, v7, v8, v9, v10, v11, Value.slice (some ⟨PB, 0, none⟩) L' pc, v13, .int .i64 n, .slice (some ⟨KB, 0, none⟩) n n, v16, v17, v18, v19, .pointer (some ⟨S, 0, none⟩), v21, .slice (some ⟨FB, 0, none⟩) L' L', v23, .slice (some ⟨LB, 0, none⟩) L' L', v25, .int .i64 (dc κ n), v27, v28, v29, v30, .int .i64 (2 * (N : Int)), .int .u64 (2 * (N : Int) - 1), .slice (some ⟨SB, 0, none⟩) (2 * N) (2 * N), v34, v35, v36, v37, v38, v39, v40, v41, v42, v43, v44, v45, v46, v47, v48, v49, v50, v51, v52, v53, v54, v55, v56, v57, v58, v59, v60, v61, v62, v63, v64, v65, v66, v67, v68, v69, v70, v71, v72, v73, v74, v75, v76, v77, v78, v79, v80, v81, v82, v83, v84, v85, v86, v87, v88, v89, v90, v91, v92, v93, v94, v95, v96, v97, v98, v99, v100, v101, v102, v103, v104, v105, v106, v107, v108, v109, v110, v111, v112, v113, v114, v115, v116, v117, v118, v119, v120, v121, v122, v123, v124, v125, v126, v127, v128, v129, v130, v131, v132, v133, v134, v135, v136, v137, v138, v139, v140, v141, v142, v143, v144, v145, v146, v147, v148, v149, v150, v151, v152, v153, v154, v155, v156, v157, v158, v159, v160, v161, v162, v163, v164, v165, v166, v167, v168, v169, v170, v171, v172, v173, v174, v175, v176, v177, v178, v179, v180, v181, v182, v183, v184, v185, v186, v187, v188, v189, v190, v191, v192, v193, v194, v195, v196, v197, v198, v199, v200, v201, v202, v203, v204, v205, v206, v207, v208, v209, v210, v211, v212, v213, v214, v215, v216, v217, v218, v219, v220, v221, v222, v223, v224, v225, v226, v227, v228, v229, v230, v231, v232, v233, v234, v235, v236, v237, v238, v239, v240, v241, v242, v243, v244, v245, v246, v247, v248, v249, v250, v251, v252, v253, v254, v255, v256, v257, v258, v259, v260, v261, v262, v263, v264, v265, v266, v267, v268, v269, v270, v271, v272, v273, v274, v275, v276, v277, v278, v279, v280, v281, v282, v283, v284, v285, v286, v287, v288, v289, v290, v291, v292, v293, v294, v295, v296, v297, v298, v299, v300, v301, v302, v303, v304, v305, v306, v307, v308, v309, v310, v311, v312, v313, v314, v315, v316, v317, v318, v319, v320, v321, v322, v323, v324, v325, v326, v327, v328, v329, v330, v331, v332, v333, v334, v335, v336, v337, v338, v339, v340, v341, v342, v343, v344, v345, v346, v347, v348, v349, v350, v351, v352, v353, v354, v355, v356, v357, v358, v359, v360, v361, v362, v363, v364, v365, v366, v367, v368, v369, v370, v371, v372, v373, v374, v375, v376, v377, v378, v379, v380, v381, v382, v383, v384, v385, v386, v387, v388, v389, v390, v391, v392, v393, v394, v395, v396, v397, v398, v399, v400, v401, v402, v403, v404, v405, v406, v407, v408, v409, v410, v411, v412, v413, v414, v415, v416, v417, v418, v419, v420, v421, v422, v423, v424, v425, v426, v427, v428, v429, v430, v431, v432, v433, v434, v435, v436, v437, v438, v439, v440, v441, v442, v443, v444, v445, v446, v447, v448, v449, v450, v451, v452, v453, v454, v455, v456, v457, v458, v459, v460, v461, v462, v463, v464, v465, v466, v467, v468, v469, v470, v471, v472, v473, v474, v475, v476, v477, v478, v479, v480, v481, v482, v483, v484, v485, v486, v487, v488, v489, v490, v491, v492, v493, v494, v495, v496, v497, v498, v499, v500, v501, v502, v503, v504, v505, v506, v507, v508, v509], []⟩ wc := by
  have HTA : Hid (Tab N n κ H sl rch) := hta
  have HKA : Hid (∀ i, κ i < L') := hka
  have HHB : Hid (∀ i, 0 ≤ hh i ∧ hh i < 18446744073709551616) := hhb
  have HH1 : Hid (∀ a, hh a / 2 ^ min sh 64 = (H a : Int)) := hh1
  have HH2 : Hid (∀ a, H a < 2 * N) := hh2
  have HKK : Hid (2 * N = 2 ^ k1) := hk1
  have HRS1 : Hid (Row wc SB (fun j => .int .u32 (sl j)) (2 * N)) := hrs
  have HRF1 : Hid (Row wc FB (fun a => .int .i64 ((fstOf κ a n : Int) - 1)) L') := hrf
  have HRL1 : Hid (Row wc LB (fun a => .int .i64 ((lastOf κ a n : Int) - 1)) L') := hrl
  have HRK1 : Hid (Row wc KB (fun i => .int .i64 (κ i)) n) := hrk
  have HRP1 : Hid (Row wc PB (fun i => ptr (kk i)) L') := hrp
  have HPO1 : Hid (Pool base L' kk hh wc) := hpo
  have HME1 : Hid (Mem S B N sh n rch (fun q => kk (κ q)) vl (pvOf κ n) (kyOf κ n) sl wc) := hme
  have HBW1 : Hid (Below base w wc) := hbw
  clear hta hka hhb hh1 hh2 hk1 hrs hrf hrl hrk hrp hpo hme hbw
  have hmk := make_ints n (by omega) wc
  show Code.wp Yba.prog (Code.seq _ _) _ _ _
  go_upto_block 16 with fail
  have hSC : SB < wc.heap.size := HRS1.out.1
  have hFC : FB < wc.heap.size := HRF1.out.1
  have hLC : LB < wc.heap.size := HRL1.out.1
  have hKC : KB < wc.heap.size := HRK1.out.1
  have hPC : PB < wc.heap.size := HRP1.out.1
  have hlS : S < wc.heap.size := World.block_lt_of_cell? wc _ HME1.out.c0
  have HKL : Hid (∀ i, i < L' → kk i < wc.heap.size) := fun i hi => (HPO1.out.plain i hi).lt
  have hb8 : Below wc.heap.size wc (wc.alloc (.cells (madeCells #[.int .i64 0] n) 3)) := (Below.refl _ _).alloc (Nat.le_refl _) _
  have HRC : Hid (Row (wc.alloc (.cells (madeCells #[.int .i64 0] n) 3)) wc.heap.size (fun _ => .int .i64 0) n) := Row.made _ _ _ _
  have HRS8 : Hid (Row (wc.alloc (.cells (madeCells #[.int .i64 0] n) 3)) SB (fun j => .int .u32 (sl j)) (2 * N)) := HRS1.out.below hb8
  have HRF8 : Hid (Row (wc.alloc (.cells (madeCells #[.int .i64 0] n) 3)) FB (fun a => .int .i64 ((fstOf κ a n : Int) - 1)) L') := HRF1.out.below hb8
  have HRL8 : Hid (Row (wc.alloc (.cells (madeCells #[.int .i64 0] n) 3)) LB (fun a => .int .i64 ((lastOf κ a n : Int) - 1)) L') := HRL1.out.below hb8
  have HRK8 : Hid (Row (wc.alloc (.cells (madeCells #[.int .i64 0] n) 3)) KB (fun i => .int .i64 (κ i)) n) := HRK1.out.below hb8
  have HRP8 : Hid (Row (wc.alloc (.cells (madeCells #[.int .i64 0] n) 3)) PB (fun i => ptr (kk i)) L') := HRP1.out.below hb8
  have HPO8 : Hid (Pool base L' kk hh (wc.alloc (.cells (madeCells #[.int .i64 0] n) 3))) := HPO1.out.below hb8
  have HME8 : Hid (Mem S B N sh n rch (fun q => kk (κ q)) vl (pvOf κ n) (kyOf κ n) sl (wc.alloc (.cells (madeCells #[.int .i64 0] n) 3))) := HME1.out.below hNp hb8
  have HB8 : Hid (Below base w (wc.alloc (.cells (madeCells #[.int .i64 0] n) 3))) := HBW1.out.trans (hb8.mono hbs)
  have hC1s : (wc.alloc (.cells (madeCells #[.int .i64 0] n) 3)).heap.size = wc.heap.size + 1 := by simp
  clear hb8 hmk HRS1 HRF1 HRL1 HRK1 HRP1 HPO1 HME1 HBW1
  generalize wc.alloc (.cells (madeCells #[.int .i64 0] n) 3) = W8 at *
  generalize hCB : wc.heap.size = CB at *
  clear hCB
  obtain ⟨M1, hM1⟩ : ∃ M1 : Int, M1 = 2 * (N : Int) - 1 := ⟨_, rfl⟩
  rw [← hM1]
  have hM1' : M1 = (N : Int) * 2 - 1 := by omega
  have HAD : Hid (∀ j h : Nat, bits .and .u64 (IntKind.u64.wrap ((j : Int) - h)) M1 = ((dst N j h : Nat) : Int)) := fun j h => by rw [hM1']; exact and_dst HKK.out hNle hNp j h
  have HAN : Hid (∀ j : Nat, j < 2 * N → bits .and .u64 ((j : Int) + 1) M1 = (((j + 1) % (2 * N) : Nat) : Int)) := fun j hj => by rw [hM1']; exact and_next HKK.out hNle j hj
  have HAS : Hid (∀ h t : Nat, h + t < 4096 → bits .and .u64 ((h : Int) + t) M1 = (((h + t) % (2 * N) : Nat) : Int)) := fun h t hl => by
    rw [hM1']
    have := and_M HKK.out hNle ((h : Int) + t)
    rw [show ((h : Int) + t) % 18446744073709551616 = (h : Int) + t by omega] at this
    rw [this, Int.natCast_emod]
    rfl
  clear hM1 hM1'
  go_cut [36, 37, 38, 39, 40, 41, 42, 43, 44, 45, 46, 47, 48] from 336 to 478 (fun oc mx jv v q ho di t j2 w2 q2 ho2 di2 wc' => oc = .int .i64 (dc κ n) ∧ mx = .int .u64 rch ∧ Row wc' CB (fun q => .int .i64 (cn sl q (2 * N))) n ∧ Below CB W8 wc')
  case first =>
    go_wp2_with fail
    go_loopw [36, 37, 38, 39, 40, 41, 42, 43, 44, 45, 46, 47, 48] (fun oc mx jv v q ho di t j2 w2 q2 ho2 di2 wr => ∃ j : Nat, oc = .int .i64 (fullN sl j) ∧ mx = .int .u64 (mxr N sl κ H j) ∧ jv = .int .i64 j ∧ j ≤ 2 * N ∧ Row wr CB (fun q => .int .i64 (cn sl q j)) n ∧ Below CB W8 wr) (fun _ _ jv _ _ _ _ _ _ _ _ _ _ _ => 2 * N - (intOf jv).toNat)
    case atStart => exact ⟨0, rfl, rfl, rfl, Nat.zero_le _, HRC.out, Below.refl _ _⟩
    case round =>
      obtain ⟨j, rfl, rfl, rfl, hj, hrc, hbel⟩ := hrel
      have HRC3 : Hid (Row wr CB (fun q => .int .i64 (cn sl q j)) n) := hrc
      have HBE : Hid (Below CB W8 wr) := hbel
      clear hrc hbel
      by_cases hlt : j < 2 * N
      · have rd : ∀ b o, b < CB → wr.cell? ⟨b, o, none⟩ = W8.cell? ⟨b, o, none⟩ := fun b o hb => HBE.out.cell (p := ⟨b, o, none⟩) hb
        have hjI : (j : Int) < 2 * N := by omega
        by_cases h0 : sl j = 0
        · have cs : wr.cell? ⟨SB, j, none⟩ = some (.int .u32 0) := (rd SB j hSC).trans ((HRS8.out.2 j hlt).1.trans (by show some (Value.int .u32 ((sl j : Nat) : Int)) = _; rw [h0]; rfl))
          have HFU : Hid (fullN sl (j + 1) = fullN sl j) := by show fullN sl j + (if _ then _ else _) = _; rw [if_pos h0, Nat.add_zero]
          have HMX : Hid (mxr N sl κ H (j + 1) = mxr N sl κ H j) := by show (if _ then _ else _) = _; rw [if_pos h0]
          have HCN : Hid (∀ q, cn sl q (j + 1) = cn sl q j) := fun q => by show cn sl q j + (if _ then _ else _) = _; rw [if_neg (by omega), Nat.add_zero]
          clear rd
          go_wp2_with fail
          go_roundw
          case rel => exact ⟨j + 1, by rw [HFU.out], by rw [HMX.out], by go_num, by omega, HRC3.out.congr (fun q _ => by rw [HCN.out]), HBE.out⟩
          case measure => simp [intOf]; omega
        · obtain ⟨q, hq⟩ : ∃ q, sl j = q + 1 := ⟨_, (Nat.succ_pred_eq_of_ne_zero h0).symm⟩
          obtain ⟨hqn', hql'⟩ := HTA.out.newest j hlt h0
          have hqn : q < n := by omega
          have hql : lastOf κ (κ q) n = q + 1 := by rw [hq] at hql'; simpa using hql'.symm
          have hκq := HKA.out q
          have hκI : (κ q : Int) < L' := by omega
          have hqI : (q : Int) < n := by omega
          have hqw : IntKind.u32.wrap (q : Int) = q := by rw [IntKind.wrap_u32]; omega
          have cs : wr.cell? ⟨SB, j, none⟩ = some (.int .u32 ((q : Int) + 1)) := (rd SB j hSC).trans ((HRS8.out.2 j hlt).1.trans (by show some (Value.int .u32 ((sl j : Nat) : Int)) = _; rw [hq]; rfl))
          have ck : wr.cell? ⟨KB, q, none⟩ = some (.int .i64 (κ q)) := (rd KB q hKC).trans (HRK8.out.2 q hqn).1
          have cl : wr.cell? ⟨LB, κ q, none⟩ = some (.int .i64 q) := (rd LB _ hLC).trans ((HRL8.out.2 (κ q) hκq).1.trans (by show some (Value.int .i64 ((lastOf κ (κ q) n : Int) - 1)) = _; rw [hql]; simp))
          have cc : wr.cell? ⟨CB, q, none⟩ = some (.int .i64 (cn sl q j)) := (HRC3.out.2 q hqn).1
          have fc := (HRC3.out.2 q hqn).2
          have lC : CB < wr.heap.size := HRC3.out.1
          have hcnl := cn_le sl q j
          have hful := fullN_le sl j
          have HFU : Hid (fullN sl (j + 1) = fullN sl j + 1) := by show fullN sl j + (if _ then _ else _) = _; rw [if_neg h0]
          have HQ : Hid (sl j = q + 1) := hq
          clear hql' hqn' hq h0 hql
          clear rd
          go_wp2_with fail
          have HRC4 : Hid (Row (wr.setCell ⟨CB, q, none⟩ (.int .i64 ((cn sl q j : Int) + 1))) CB (fun q' => .int .i64 (cn sl q' (j + 1))) n) := (HRC3.out.set q hqn _).congr (fun q' _ => by
            have hs : cn sl q' (j + 1) = cn sl q' j + (if sl j = q' + 1 then 1 else 0) := rfl
            have hq := HQ.out
            by_cases e : q' = q
            · subst e; rw [if_pos rfl, hs, if_pos hq]; rfl
            · rw [if_neg e, hs, if_neg (by omega), Nat.add_zero])
          have HBE4 : Hid (Below CB W8 (wr.setCell ⟨CB, q, none⟩ (.int .i64 ((cn sl q j : Int) + 1)))) := HBE.out.setCell (by simp) _
          generalize wr.setCell ⟨CB, q, none⟩ (.int .i64 ((cn sl q j : Int) + 1)) = W9 at HRC4 HBE4 ⊢
          clear cs cl cc fc lC HRC3 HBE ck
          have rd : ∀ b o, b < CB → W9.cell? ⟨b, o, none⟩ = W8.cell? ⟨b, o, none⟩ := fun b o hb => HBE4.out.cell (p := ⟨b, o, none⟩) hb
          have ck : W9.cell? ⟨KB, q, none⟩ = some (.int .i64 (κ q)) := (rd KB q hKC).trans (HRK8.out.2 q hqn).1
          have cp : W9.cell? ⟨PB, κ q, none⟩ = some (ptr (kk (κ q))) := (rd PB _ hPC).trans (HRP8.out.2 (κ q) hκq).1
          have ch : W9.cell? ⟨kk (κ q), 1, none⟩ = some (.int .u64 (hh (κ q))) := (rd _ _ (HKL.out (κ q) hκq)).trans (HPO8.out.hash (κ q) hκq)
          have c1 : W9.cell? ⟨S, 1, none⟩ = some (.int .u8 sh) := (rd S 1 hlS).trans HME8.out.c1
          have hs2 : hh (κ q) / 2 ^ sh = (H (κ q) : Int) := by have := HH1.out (κ q); rw [Nat.min_eq_left (by omega)] at this; exact this
          obtain ⟨hb0, hb1⟩ := HHB.out (κ q)
          have lK := World.block_lt_of_cell? W9 _ ck
          have lP := World.block_lt_of_cell? W9 _ cp
          have lk := World.block_lt_of_cell? W9 _ ch
          have lS := World.block_lt_of_cell? W9 _ c1
          clear rd
          go_quiet (fail)
          have HRC5 : Hid (Row (W9.drewN nq) CB (fun q' => .int .i64 (cn sl q' (j + 1))) n) := HRC4.out
          have HBE5 : Hid (Below CB W8 (W9.drewN nq)) := Below.drewN HBE4.out nq
          have c1' : (W9.drewN nq).cell? ⟨S, 1, none⟩ = some (.int .u8 sh) := c1
          clear ck cp ch c1 lK lP lk lS
          generalize W9.drewN nq = W10 at HRC5 HBE5 c1' ⊢
          go_step
          go_step
          refine way_any base W10 N n L' j q sh rch S KB PB pc FB SB M1 kk κ H sl hh (HRS8.out.only (upOnly HBE5.out) (by omega)) (HRF8.out.only (upOnly HBE5.out) (by omega)) (HRK8.out.only (upOnly HBE5.out) (by omega)) (HRP8.out.only (upOnly HBE5.out) (by omega)) (HPO8.out.only (upOnly HBE5.out) (fun i hi => by have := HKL.out i hi; omega)) c1' HTA.out HKA.out HHB.out HH1.out HH2.out hNle hNp hnN hL16 hsh HAD.out HAN.out HAS.out hlt HQ.out _ _ ?_
          intros
          rename_i W' hO
          have HRC6 : Hid (Row W' CB (fun q' => .int .i64 (cn sl q' (j + 1))) n) := HRC5.out.only hO (fun e => e)
          have HBE6 : Hid (Below CB W8 W') := HBE5.out.trans ⟨hO.os, hO.tape, hO.output, hO.size, fun k hk => hO.block k (Nat.lt_of_lt_of_le hk (by have := HBE5.out.size; omega)) (fun e => e)⟩
          clear hO HRC5 HBE5 c1'
          go_wp2_with fail
          go_roundw
          case rel => exact ⟨j + 1, by rw [HFU.out]; first | rfl | simp, rfl, by go_num, by omega, HRC6.out, HBE6.out⟩
          case measure => simp [intOf]; omega
      · obtain rfl : j = 2 * N := by omega
        have hjI : ¬ (2 * (N : Int)) < 2 * N := by omega
        have hcn := HTA.out.cnt
        have hmx := HTA.out.mxr
        go_wp2_with fail
        go_meet
        case rel => exact ⟨rfl, rfl, HRC3.out, HBE.out⟩
  obtain ⟨rfl, rfl, hcc, hbel⟩ := hcut
  go_step
  exact fin_any base w wc N n L' rch S KB LB CB κ H sl hcc (HRL8.out.only (upOnly hbel) (by omega)) (HRK8.out.only (upOnly hbel) (by omega)) ((upOnly hbel).cell HME8.out.c3 (by show ¬ CB ≤ S; omega)) HTA.out (HB8.out.trans (hbel.mono hbs)) HKA.out hNle hNp hnN
end Go.Proofs.Ybulkdoqu
