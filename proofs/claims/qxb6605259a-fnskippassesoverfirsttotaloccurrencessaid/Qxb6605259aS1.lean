/-
  THE LAW OF SKIP, the first loop and all behind it.
-/
import Derived.Test.Qxb6605259aS2
namespace Go.Proofs.Qxb6605259a
open Go.RowKit Go.Maps

set_option maxRecDepth 100000 in
set_option maxHeartbeats 4000000 in
theorem loop1t (w wr : World) (H : Nat) (b0 b1 b2 b3 b4 : Option Addr) (n0 n1 n2 n3 n4 G0 G1 G2 G3 G4 : Nat) (s0 : List ByteArray) (z1 : List Int) (s2 : List ByteArray) (z3 : List Int) (s4 : List ByteArray) (bt bm d0 d1 d2 d3 d4 nt ns : Nat)
    (m0 : n0 ≤ 65536) (m2 : n2 ≤ 65536) (m4 : n4 ≤ 65536) (hnt : nt ≤ n0) (hnt1 : nt ≤ n1) (hns : ns ≤ n2) (hns3 : ns ≤ n3)
    (a1 : H ≤ bt) (a2 : H ≤ bm) (a5 : bt ≠ bm) (hL : L1 w wr H b0 b1 b2 b3 b4 n0 n1 n2 n3 n4 G0 G1 G2 G3 G4 s0 z1 s2 z3 s4 bt bm 0) (K : Act → World → Prop) (hK : ∀ (a : Act) (w' : World), Code.wp Try.prog (dropS 20 (Try.f5.body.getD .skip)) (bodyPost Try.prog Try.f5 (Rq w)) a w' → K a w')
    (v5 v6 v7 v8 v9 v10 v11 v17 v18 v19 v20 v21 v22 v23 v24 v25 v26 v27 v28 v29 v30 v31 v32 v33 v34 v35 v36 v37 v38 v39 v40 v41 v42 v43 v44 v45 v46 v47 v48 v49 v50 v51 v52 v53 v54 v55 v56 v57 v58 v59 v60 v61 v62 v63 v64 v65 v66 v67 v68 v69 v70 v71 v72 v73 v74 v75 v76 v77 v78 v79 v80 v81 v82 v83 v84 v85 v86 v87 v88 v89 v90 v91 v92 v93 v94 v95 v96 v97 v98 v99 v100 v101 v102 v103 v104 v105 v106 v107 v108 v109 v110 v111 v112 v113 v114 v115 v116 v117 v118 v119 v120 v121 v122 v123 v124 v125 v126 v127 v128 v129 v130 v131 v132 v133 v134 v135 v136 v137 v138 v139 v140 v141 v142 v143 v144 v145 v146 v147 v148 v149 v150 v151 v152 v153 v154 v155 v156 v157 v158 v159 v160 v161 v162 v163 v164 v165 v166 v167 v168 v169 v170 v171 v172 v173 v174 v175 v176 v177 v178 v179 v180 v181 v182 v183 v184 v185 v186 v187 v188 v189 v190 v191 v192 v193 v194 v195 v196 v197 v198 v199 v200 v201 v202 v203 v204 v205 v206 v207 v208 v209 v210 v211 v212 v213 v214 v215 v216 v217 v218 v219 v220 v221 v222 v223 v224 v225 v226 v227 v228 v229 v230 v231 v232 v233 v234 v235 v236 v237 v238 v239 v240 v241 v242 v243 v244 v245 v246 v247 v248 v249 v250 v251 v252 v253 v254 v255 v256 v257 v258 v259 v260 v261 v262 v263 v264 v265 v266 v267 v268 v269 v270 v271 v272 v273 v274 v275 v276 v277 v278 v279 v280 v281 v282 v283 v284 v285 v286 v287 v288 v289 v290 v291 v292 v293 v294 v295 v296 v297 v298 v299 v300 v301 v302 v303 v304 v305 v306 v307 v308 v309 v310 v311 v312 v313 v314 v315 v316 v317 v318 v319 v320 v321 v322 v323 v324 v325 v326 v327 v328 v329 v330 v331 v332 v333 v334 v335 v336 v337 v338 v339 v340 v341 v342 v343 v344 v345 v346 v347 v348 v349 v350 v351 v352 v353 v354 v355 v356 v357 v358 v359 v360 v361 v362 v363 v364 v365 v366 v367 v368 v369 v370 : Value) :
    Code.wp Try.prog (loopIn (dropS 19 (Try.f5.body.getD .skip))) (Exit.inBlock 0 (Exit.then K (bodyPost Try.prog Try.f5 (Rq w)))) ⟨#[.slice b0 n0 d0, .slice b1 n1 d1, .slice b2 n2 d2, .slice b3 n3 d3, .slice b4 n4 d4, v5, v6, v7, v8, v9, v10, v11, .int .i64 nt, .int .i64 ns, .map (some bt), .map (some bm), .int .i64 0, v17, v18, v19, v20, v21, v22, v23, v24, v25, v26, v27, v28, v29, v30, v31, v32, v33, v34, v35, v36, v37, v38, v39, v40, v41, v42, v43, v44, v45, v46, v47, v48, v49, v50, v51, v52, v53, v54, v55, v56, v57, v58, v59, v60, v61, v62, v63, v64, v65, v66, v67, v68, v69, v70, v71, v72, v73, v74, v75, v76, v77, v78, v79, v80, v81, v82, v83, v84, v85, v86, v87, v88, v89, v90, v91, v92, v93, v94, v95, v96, v97, v98, v99, v100, v101, v102, v103, v104, v105, v106, v107, v108, v109, v110, v111, v112, v113, v114, v115, v116, v117, v118, v119, v120, v121, v122, v123, v124, v125, v126, v127, v128, v129, v130, v131, v132, v133, v134, v135, v136, v137, v138, v139, v140, v141, v142, v143, v144, v145, v146, v147, v148, v149, v150, v151, v152, v153, v154, v155, v156, v157, v158, v159, v160, v161, v162, v163, v164, v165, v166, v167, v168, v169, v170, v171, v172, v173, v174, v175, v176, v177, v178, v179, v180, v181, v182, v183, v184, v185, v186, v187, v188, v189, v190, v191, v192, v193, v194, v195, v196, v197, v198, v199, v200, v201, v202, v203, v204, v205, v206, v207, v208, v209, v210, v211, v212, v213, v214, v215, v216, v217, v218, v219, v220, v221, v222, v223, v224, v225, v226, v227, v228, v229, v230, v231, v232, v233, v234, v235, v236, v237, v238, v239, v240, v241, v242, v243, v244, v245, v246, v247, v248, v249, v250, v251, v252, v253, v254, v255, v256, v257, v258, v259, v260, v261, v262, v263, v264, v265, v266, v267, v268, v269, v270, v271, v272, v273, v274, v275, v276, v277, v278, v279, v280, v281, v282, v283, v284, v285, v286, v287, v288, v289, v290, v291, v292, v293, v294, v295, v296, v297, v298, v299, v300, v301, v302, v303, v304, v305, v306, v307, v308, v309, v310, v311, v312, v313, v314, v315, v316, v317, v318, v319, v320, v321, v322, v323, v324, v325, v326, v327, v328, v329, v330, v331, v332, v333, v334, v335, v336, v337, v338, v339, v340, v341, v342, v343, v344, v345, v346, v347, v348, v349, v350, v351, v352, v353, v354, v355, v356, v357, v358, v359, v360, v361, v362, v363, v364, v365, v366, v367, v368, v369, v370], []⟩ wr := by
  have AQ : Hid (∀ (wr : World) (i : Nat), L1 w wr H b0 b1 b2 b3 b4 n0 n1 n2 n3 n4 G0 G1 G2 G3 G4 s0 z1 s2 z3 s4 bt bm i → i < nt → _) := fun wr i h hi => L1.step h (show i < n0 by omega) (show i < n1 by omega) m0 a1 a2 a5
  have hix2 := index28 d0 hL.1.1.1.2.1
  have hix3 := index29 d1 hL.1.2.1.1.2.1
  simp only [Nat.zero_add] at hix2 hix3
  have HL0 : Hid _ := hL
  have HK : Hid _ := hK
  clear hL a1 a2 a5 hK
  conv => arg 2; whnf
  go_wp2_with fail
  go_loopw [16] (fun j wr => ∃ i : Nat, i ≤ nt ∧ j = .int .i64 i ∧ L1 w wr H b0 b1 b2 b3 b4 n0 n1 n2 n3 n4 G0 G1 G2 G3 G4 s0 z1 s2 z3 s4 bt bm i) (fun j _ => nt - (intOf j).toNat)
  case atStart => exact ⟨0, Nat.zero_le _, rfl, HL0.out⟩
  case round =>
    clear HL0
    obtain ⟨i, hin, rfl, hL⟩ := hrel
    have HL : Hid _ := hL
    by_cases hlt : i < nt
    · have hltz : (i : Int) < (nt : Int) := by omega
      have hlt2 : i < n0 := by omega
      have hlt3 : i < n1 := by omega
      have hc := hL.1.1.1.2.2.1 i hlt2
      have hz := hL.1.2.1.1.2.2.1 i hlt3
      rw [Nat.zero_add] at hc hz
      obtain ⟨W1, W2, r1, r2, ⟨c1, c2⟩, ⟨c3, c4⟩, hL2⟩ := AQ.out _ _ hL hlt
      have HL2 : Hid _ := hL2
      generalize s0.getD i ByteArray.empty = x at hc r1 r2 c1 c3
      generalize z1.getD i 0 = z at hz r1 r2 c2 c4
      clear hL hL2
      go_wp2_with fail
      go_region_held3 (fun w' => w'.cell? ⟨G0, i, none⟩ = some (.string x) ∧ w'.cell? ⟨G1, i, none⟩ = some (.int .i64 z)) (first | go_keep | exact ⟨c1, c2⟩ | exact ⟨c3, c4⟩) (fail)
      go_wp2_with fail
      go_region_held3 (fun w' => w'.cell? ⟨G0, i, none⟩ = some (.string x) ∧ w'.cell? ⟨G1, i, none⟩ = some (.int .i64 z)) (first | go_keep | exact ⟨c1, c2⟩ | exact ⟨c3, c4⟩) (fail)
      go_wp2_with fail
      go_roundw
      case rel => exact ⟨i + 1, by omega, by go_num, HL2.out⟩
      case measure => simp [intOf]; omega
    · obtain rfl : i = nt := by omega
      clear hL
      go_wp2_with fail
      refine HK.out _ _ ?_
      exact tail1 w wr H b0 b1 b2 b3 b4 n0 n1 n2 n3 n4 G0 G1 G2 G3 G4 s0 z1 s2 z3 s4 bt bm i (foldZ s0 i) (foldV s0 z1 i) (foldH s0 i) d0 d1 d2 d3 d4 i ns m0 m2 m4 hnt hns hns3 (foldH_key s0 i) HL.out.1 HL.out.2.1 HL.out.2.2 _ _ _ _ _ _ _ _ _ _ _ _ _ _ _ _ _ _ _ _ _ _ _ _ _ _ _ _ _ _ _ _ _ _ _ _ _ _ _ _ _ _ _ _ _ _ _ _ _ _ _ _ _ _ _ _ _ _ _ _ _ _ _ _ _ _ _ _ _ _ _ _ _ _ _ _ _ _ _ _ _ _ _ _ _ _ _ _ _ _ _ _ _ _ _ _ _ _ _ _ _ _ _ _ _ _ _ _ _ _ _ _ _ _ _ _ _ _ _ _ _ _ _ _ _ _ _ _ _ _ _ _ _ _ _ _ _ _ _ _ _ _ _ _ _ _ _ _ _ _ _ _ _ _ _ _ _ _ _ _ _ _ _ _ _ _ _ _ _ _ _ _ _ _ _ _ _ _ _ _ _ _ _ _ _ _ _ _ _ _ _ _ _ _ _ _ _ _ _ _ _ _ _ _ _ _ _ _ _ _ _ _ _ _ _ _ _ _ _ _ _ _ _ _ _ _ _ _ _ _ _ _ _ _ _ _ _ _ _ _ _ _ _ _ _ _ _ _ _ _ _ _ _ _ _ _ _ _ _ _ _ _ _ _ _ _ _ _ _ _ _ _ _ _ _ _ _ _ _ _ _ _ _ _ _ _ _ _ _ _ _ _ _ _ _ _ _ _ _ _ _ _ _ _ _ _ _ _ _ _ _ _ _ _ _ _ _ _ _ _ _ _ _ _ _ _ _ _ _ _ _ _ _ _ _ _ _ _ _ _ _ _ _ _ _ _ _ _ _ _ _ _ _ _ _ _ _ _ _ _ _ _
end Go.Proofs.Qxb6605259a
