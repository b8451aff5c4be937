/-
  THE LAW OF SKIP, from behind the second loop on.
-/
import Derived.Test.Qxb6605259aS4
namespace Go.Proofs.Qxb6605259a
open Go.RowKit Go.Maps

set_option maxRecDepth 100000 in
set_option maxHeartbeats 4000000 in
theorem tail3 (w wr : World) (H : Nat) (b0 b1 b2 b3 b4 : Option Addr) (n0 n1 n2 n3 n4 G0 G1 G2 G3 G4 : Nat) (s0 : List ByteArray) (z1 : List Int) (s2 : List ByteArray) (z3 : List Int) (s4 : List ByteArray) (bt bm bb kt kb tz zb : Nat) (T B : List UInt8 → Int) (TH BH : List UInt8 → Bool) (d0 d2 d4 nt ns bs : Nat) (ap : H ≤ bs ∧ bs ≠ bt ∧ bs ≠ bm ∧ bs ≠ bb) (m0 : n0 ≤ 65536) (m2 : n2 ≤ 65536) (m4 : n4 ≤ 65536) (hnt : nt ≤ n0) (hns : ns ≤ n2) (hkb : kb ≤ 65536) (hT : ∀ i, i < nt → TH (key s0 i) = true) (hBH : ∀ i, i < ns → BH (key s2 i) = true) (hRO : ∀ i, i < n4 → 0 ≤ B (key s4 i) ∧ B (key s4 i) ≤ T (key s4 i))
    (hst : Still w wr H b0 b1 b2 b3 b4 n0 n1 n2 n3 n4 G0 G1 G2 G3 G4 s0 z1 s2 z3 s4 bt bm bb kt kb tz zb T B TH BH) (hms : MapZ wr bs kb B BH zb)
    (v1 v3 v5 v6 v7 v8 v9 v10 v11 v16 v19 v20 v21 v22 v23 v24 v25 v26 v27 v28 v29 v30 v31 v32 v33 v34 v35 v36 v37 v38 v39 v40 v41 v42 v43 v44 v45 v46 v47 v48 v49 v50 v51 v52 v53 v54 v55 v56 v57 v58 v59 v60 v61 v62 v63 v64 v65 v66 v67 v68 v69 v70 v71 v72 v73 v74 v75 v76 v77 v78 v79 v80 v81 v82 v83 v84 v85 v86 v87 v88 v89 v90 v91 v92 v93 v94 v95 v96 v97 v98 v99 v100 v101 v102 v103 v104 v105 v106 v107 v108 v109 v110 v111 v112 v113 v114 v115 v116 v117 v118 v119 v120 v121 v122 v123 v124 v125 v126 v127 v128 v129 v130 v131 v132 v133 v134 v135 v136 v137 v138 v139 v140 v141 v142 v143 v144 v145 v146 v147 v148 v149 v150 v151 v152 v153 v154 v155 v156 v157 v158 v159 v160 v161 v162 v163 v164 v165 v166 v167 v168 v169 v170 v171 v172 v173 v174 v175 v176 v177 v178 v179 v180 v181 v182 v183 v184 v185 v186 v187 v188 v189 v190 v191 v192 v193 v194 v195 v196 v197 v198 v199 v200 v201 v202 v203 v204 v205 v206 v207 v208 v209 v210 v211 v212 v213 v214 v215 v216 v217 v218 v219 v220 v221 v222 v223 v224 v225 v226 v227 v228 v229 v230 v231 v232 v233 v234 v235 v236 v237 v238 v239 v240 v241 v242 v243 v244 v245 v246 v247 v248 v249 v250 v251 v252 v253 v254 v255 v256 v257 v258 v259 v260 v261 v262 v263 v264 v265 v266 v267 v268 v269 v270 v271 v272 v273 v274 v275 v276 v277 v278 v279 v280 v281 v282 v283 v284 v285 v286 v287 v288 v289 v290 v291 v292 v293 v294 v295 v296 v297 v298 v299 v300 v301 v302 v303 v304 v305 v306 v307 v308 v309 v310 v311 v312 v313 v314 v315 v316 v317 v318 v319 v320 v321 v322 v323 v324 v325 v326 v327 v328 v329 v330 v331 v332 v333 v334 v335 v336 v337 v338 v339 v340 v341 v342 v343 v344 v345 v346 v347 v348 v349 v350 v351 v352 v353 v354 v355 v356 v357 v358 v359 v360 v361 v362 v363 v364 v365 v366 v367 v368 v369 v370 : Value) :
    Code.wp Try.prog (dropS 24 (Try.f5.body.getD .skip)) (bodyPost Try.prog Try.f5 (Rq w)) ⟨#[.slice b0 n0 d0, v1, .slice b2 n2 d2, v3, .slice b4 n4 d4, v5, v6, v7, v8, v9, v10, v11, .int .i64 nt, .int .i64 ns, .map (some bt), .map (some bm), v16, .map (some bs), .map (some bb), v19, v20, v21, v22, v23, v24, v25, v26, v27, v28, v29, v30, v31, v32, v33, v34, v35, v36, v37, v38, v39, v40, v41, v42, v43, v44, v45, v46, v47, v48, v49, v50, v51, v52, v53, v54, v55, v56, v57, v58, v59, v60, v61, v62, v63, v64, v65, v66, v67, v68, v69, v70, v71, v72, v73, v74, v75, v76, v77, v78, v79, v80, v81, v82, v83, v84, v85, v86, v87, v88, v89, v90, v91, v92, v93, v94, v95, v96, v97, v98, v99, v100, v101, v102, v103, v104, v105, v106, v107, v108, v109, v110, v111, v112, v113, v114, v115, v116, v117, v118, v119, v120, v121, v122, v123, v124, v125, v126, v127, v128, v129, v130, v131, v132, v133, v134, v135, v136, v137, v138, v139, v140, v141, v142, v143, v144, v145, v146, v147, v148, v149, v150, v151, v152, v153, v154, v155, v156, v157, v158, v159, v160, v161, v162, v163, v164, v165, v166, v167, v168, v169, v170, v171, v172, v173, v174, v175, v176, v177, v178, v179, v180, v181, v182, v183, v184, v185, v186, v187, v188, v189, v190, v191, v192, v193, v194, v195, v196, v197, v198, v199, v200, v201, v202, v203, v204, v205, v206, v207, v208, v209, v210, v211, v212, v213, v214, v215, v216, v217, v218, v219, v220, v221, v222, v223, v224, v225, v226, v227, v228, v229, v230, v231, v232, v233, v234, v235, v236, v237, v238, v239, v240, v241, v242, v243, v244, v245, v246, v247, v248, v249, v250, v251, v252, v253, v254, v255, v256, v257, v258, v259, v260, v261, v262, v263, v264, v265, v266, v267, v268, v269, v270, v271, v272, v273, v274, v275, v276, v277, v278, v279, v280, v281, v282, v283, v284, v285, v286, v287, v288, v289, v290, v291, v292, v293, v294, v295, v296, v297, v298, v299, v300, v301, v302, v303, v304, v305, v306, v307, v308, v309, v310, v311, v312, v313, v314, v315, v316, v317, v318, v319, v320, v321, v322, v323, v324, v325, v326, v327, v328, v329, v330, v331, v332, v333, v334, v335, v336, v337, v338, v339, v340, v341, v342, v343, v344, v345, v346, v347, v348, v349, v350, v351, v352, v353, v354, v355, v356, v357, v358, v359, v360, v361, v362, v363, v364, v365, v366, v367, v368, v369, v370], []⟩ wr := by
  have hmm := @run_makeMap Try.prog
  have AP : Hid (Apart H bt bm bb bs wr.heap.size) := ⟨ap.1, ap.2.1, ap.2.2.1, ap.2.2.2, hst.1.2.2.2.2.2.2.1, hst.2.1.lt, hst.2.2.1.lt, hst.2.2.2.lt, hms.lt⟩
  have HT : Hid _ := hT
  have HBH : Hid _ := hBH
  have HRO : Hid _ := hRO
  have HST : Hid (Still w (wr.alloc (.map #[] 0)) H b0 b1 b2 b3 b4 n0 n1 n2 n3 n4 G0 G1 G2 G3 G4 s0 z1 s2 z3 s4 bt bm bb kt kb tz zb T B TH BH) := hst.grown (World.grownBy_alloc wr _ none) (fun k e => by cases e)
  have HMS : Hid (MapZ (wr.alloc (.map #[] 0)) bs kb B BH zb) := hms.alloc _
  clear ap hT hBH hRO hst hms
  refine wp_drop (D := (dropS 25 (Try.f5.body.getD .skip))) rfl (fun R hR => ?_)
  have HR : Hid _ := hR
  clear hR
  conv => arg 2; whnf
  go_wp2_with fail
  have hR := HR.out
  subst hR
  exact tail3b w _ H b0 b1 b2 b3 b4 n0 n1 n2 n3 n4 G0 G1 G2 G3 G4 s0 z1 s2 z3 s4 bt bm bb kt kb tz zb T B TH BH d0 d2 d4 nt ns bs wr.heap.size AP.out m0 m2 m4 hnt hns hkb HT.out HBH.out HRO.out HST.out HMS.out (MapZ.made wr) _ _ _ _ _ _ _ _ _ _ _ _ _ _ _ _ _ _ _ _ _ _ _ _ _ _ _ _ _ _ _ _ _ _ _ _ _ _ _ _ _ _ _ _ _ _ _ _ _ _ _ _ _ _ _ _ _ _ _ _ _ _ _ _ _ _ _ _ _ _ _ _ _ _ _ _ _ _ _ _ _ _ _ _ _ _ _ _ _ _ _ _ _ _ _ _ _ _ _ _ _ _ _ _ _ _ _ _ _ _ _ _ _ _ _ _ _ _ _ _ _ _ _ _ _ _ _ _ _ _ _ _ _ _ _ _ _ _ _ _ _ _ _ _ _ _ _ _ _ _ _ _ _ _ _ _ _ _ _ _ _ _ _ _ _ _ _ _ _ _ _ _ _ _ _ _ _ _ _ _ _ _ _ _ _ _ _ _ _ _ _ _ _ _ _ _ _ _ _ _ _ _ _ _ _ _ _ _ _ _ _ _ _ _ _ _ _ _ _ _ _ _ _ _ _ _ _ _ _ _ _ _ _ _ _ _ _ _ _ _ _ _ _ _ _ _ _ _ _ _ _ _ _ _ _ _ _ _ _ _ _ _ _ _ _ _ _ _ _ _ _ _ _ _ _ _ _ _ _ _ _ _ _ _ _ _ _ _ _ _ _ _ _ _ _ _ _ _ _ _ _ _ _ _ _ _ _ _ _ _ _ _ _ _ _ _ _ _ _ _ _ _ _ _ _ _ _ _ _ _ _ _ _ _ _ _ _ _ _ _ _ _ _ _ _ _ _ _ _ _ _ _ _ _ _ _ _ _ _ _ _

set_option maxRecDepth 100000 in
set_option maxHeartbeats 4000000 in
theorem tail2 (w wr : World) (H : Nat) (b0 b1 b2 b3 b4 : Option Addr) (n0 n1 n2 n3 n4 G0 G1 G2 G3 G4 : Nat) (s0 : List ByteArray) (z1 : List Int) (s2 : List ByteArray) (z3 : List Int) (s4 : List ByteArray) (bt bm bb kt kb tz zb : Nat) (T B : List UInt8 → Int) (TH BH : List UInt8 → Bool) (d0 d2 d4 nt ns bs : Nat) (ap : H ≤ bs ∧ bs ≠ bt ∧ bs ≠ bm ∧ bs ≠ bb) (m0 : n0 ≤ 65536) (m2 : n2 ≤ 65536) (m4 : n4 ≤ 65536) (hnt : nt ≤ n0) (hns : ns ≤ n2) (hkb : kb ≤ 65536) (hT : ∀ i, i < nt → TH (key s0 i) = true) (hBH : ∀ i, i < ns → BH (key s2 i) = true)
    (hst : Still w wr H b0 b1 b2 b3 b4 n0 n1 n2 n3 n4 G0 G1 G2 G3 G4 s0 z1 s2 z3 s4 bt bm bb kt kb tz zb T B TH BH) (hms : MapZ wr bs kb B BH zb)
    (v1 v3 v5 v6 v7 v8 v9 v10 v11 v16 v19 v20 v21 v22 v23 v24 v25 v26 v27 v28 v29 v30 v31 v32 v33 v34 v35 v36 v37 v38 v39 v40 v41 v42 v43 v44 v45 v46 v47 v48 v49 v50 v51 v52 v53 v54 v55 v56 v57 v58 v59 v60 v61 v62 v63 v64 v65 v66 v67 v68 v69 v70 v71 v72 v73 v74 v75 v76 v77 v78 v79 v80 v81 v82 v83 v84 v85 v86 v87 v88 v89 v90 v91 v92 v93 v94 v95 v96 v97 v98 v99 v100 v101 v102 v103 v104 v105 v106 v107 v108 v109 v110 v111 v112 v113 v114 v115 v116 v117 v118 v119 v120 v121 v122 v123 v124 v125 v126 v127 v128 v129 v130 v131 v132 v133 v134 v135 v136 v137 v138 v139 v140 v141 v142 v143 v144 v145 v146 v147 v148 v149 v150 v151 v152 v153 v154 v155 v156 v157 v158 v159 v160 v161 v162 v163 v164 v165 v166 v167 v168 v169 v170 v171 v172 v173 v174 v175 v176 v177 v178 v179 v180 v181 v182 v183 v184 v185 v186 v187 v188 v189 v190 v191 v192 v193 v194 v195 v196 v197 v198 v199 v200 v201 v202 v203 v204 v205 v206 v207 v208 v209 v210 v211 v212 v213 v214 v215 v216 v217 v218 v219 v220 v221 v222 v223 v224 v225 v226 v227 v228 v229 v230 v231 v232 v233 v234 v235 v236 v237 v238 v239 v240 v241 v242 v243 v244 v245 v246 v247 v248 v249 v250 v251 v252 v253 v254 v255 v256 v257 v258 v259 v260 v261 v262 v263 v264 v265 v266 v267 v268 v269 v270 v271 v272 v273 v274 v275 v276 v277 v278 v279 v280 v281 v282 v283 v284 v285 v286 v287 v288 v289 v290 v291 v292 v293 v294 v295 v296 v297 v298 v299 v300 v301 v302 v303 v304 v305 v306 v307 v308 v309 v310 v311 v312 v313 v314 v315 v316 v317 v318 v319 v320 v321 v322 v323 v324 v325 v326 v327 v328 v329 v330 v331 v332 v333 v334 v335 v336 v337 v338 v339 v340 v341 v342 v343 v344 v345 v346 v347 v348 v349 v350 v351 v352 v353 v354 v355 v356 v357 v358 v359 v360 v361 v362 v363 v364 v365 v366 v367 v368 v369 v370 : Value) :
    Code.wp Try.prog (dropS 23 (Try.f5.body.getD .skip)) (bodyPost Try.prog Try.f5 (Rq w)) ⟨#[.slice b0 n0 d0, v1, .slice b2 n2 d2, v3, .slice b4 n4 d4, v5, v6, v7, v8, v9, v10, v11, .int .i64 nt, .int .i64 ns, .map (some bt), .map (some bm), v16, .map (some bs), .map (some bb), v19, v20, v21, v22, v23, v24, v25, v26, v27, v28, v29, v30, v31, v32, v33, v34, v35, v36, v37, v38, v39, v40, v41, v42, v43, v44, v45, v46, v47, v48, v49, v50, v51, v52, v53, v54, v55, v56, v57, v58, v59, v60, v61, v62, v63, v64, v65, v66, v67, v68, v69, v70, v71, v72, v73, v74, v75, v76, v77, v78, v79, v80, v81, v82, v83, v84, v85, v86, v87, v88, v89, v90, v91, v92, v93, v94, v95, v96, v97, v98, v99, v100, v101, v102, v103, v104, v105, v106, v107, v108, v109, v110, v111, v112, v113, v114, v115, v116, v117, v118, v119, v120, v121, v122, v123, v124, v125, v126, v127, v128, v129, v130, v131, v132, v133, v134, v135, v136, v137, v138, v139, v140, v141, v142, v143, v144, v145, v146, v147, v148, v149, v150, v151, v152, v153, v154, v155, v156, v157, v158, v159, v160, v161, v162, v163, v164, v165, v166, v167, v168, v169, v170, v171, v172, v173, v174, v175, v176, v177, v178, v179, v180, v181, v182, v183, v184, v185, v186, v187, v188, v189, v190, v191, v192, v193, v194, v195, v196, v197, v198, v199, v200, v201, v202, v203, v204, v205, v206, v207, v208, v209, v210, v211, v212, v213, v214, v215, v216, v217, v218, v219, v220, v221, v222, v223, v224, v225, v226, v227, v228, v229, v230, v231, v232, v233, v234, v235, v236, v237, v238, v239, v240, v241, v242, v243, v244, v245, v246, v247, v248, v249, v250, v251, v252, v253, v254, v255, v256, v257, v258, v259, v260, v261, v262, v263, v264, v265, v266, v267, v268, v269, v270, v271, v272, v273, v274, v275, v276, v277, v278, v279, v280, v281, v282, v283, v284, v285, v286, v287, v288, v289, v290, v291, v292, v293, v294, v295, v296, v297, v298, v299, v300, v301, v302, v303, v304, v305, v306, v307, v308, v309, v310, v311, v312, v313, v314, v315, v316, v317, v318, v319, v320, v321, v322, v323, v324, v325, v326, v327, v328, v329, v330, v331, v332, v333, v334, v335, v336, v337, v338, v339, v340, v341, v342, v343, v344, v345, v346, v347, v348, v349, v350, v351, v352, v353, v354, v355, v356, v357, v358, v359, v360, v361, v362, v363, v364, v365, v366, v367, v368, v369, v370], []⟩ wr := by
  have AP : Hid _ := ap
  have HT : Hid _ := hT
  have HBH : Hid _ := hBH
  have hB := hst.1.2.2.2.2.2.1
  have hix := index28 d4 hst.1.2.2.2.2.1.1.2.1
  simp only [Nat.zero_add] at hix
  have HST : Hid _ := hst
  have HMS : Hid _ := hms
  clear ap hT hBH hst hms
  refine wp_drop (D := (dropS 24 (Try.f5.body.getD .skip))) rfl (fun R hR => ?_)
  have HR : Hid _ := hR
  clear hR
  conv => arg 2; whnf
  go_wp2_with fail
  go_loop [20] (fun j => ∃ i : Nat, i ≤ n4 ∧ j = .int .i64 i ∧ ∀ q, q < i → 0 ≤ B (key s4 q) ∧ B (key s4 q) ≤ T (key s4 q)) (fun j => n4 - (intOf j).toNat)
  case atStart => exact ⟨0, Nat.zero_le _, rfl, fun q h => absurd h (Nat.not_lt_zero q)⟩
  case round =>
    obtain ⟨i, hin, rfl, hall⟩ := hrel
    have HA : Hid _ := hall
    clear hall
    by_cases hlt : i < n4
    · have hltz : (i : Int) < (n4 : Int) := by omega
      have hc := HST.out.1.2.2.2.2.1.1.2.2.1 i hlt
      have hs := HST.out.1.2.2.2.2.1.1.2.2.2 i hlt
      rw [Nat.zero_add] at hc
      have em := (MapZ.look HST.out.2.2.1 hs).1
      have eb := (MapZ.look HST.out.2.2.2 hs).1
      have HN : Hid (0 ≤ B (key s4 i) ∧ B (key s4 i) ≤ T (key s4 i) → ∀ q, q < i + 1 → 0 ≤ B (key s4 q) ∧ B (key s4 q) ≤ T (key s4 q)) := fun h q hq => by
        by_cases e : q = i
        · rw [e]; exact h
        · exact HA.out q (by omega)
      have HK : Hid (0 ≤ B (s4.getD i ByteArray.empty).data.toList ∧ B (s4.getD i ByteArray.empty).data.toList ≤ T (s4.getD i ByteArray.empty).data.toList → ∀ q, q < i + 1 → 0 ≤ B (key s4 q) ∧ B (key s4 q) ≤ T (key s4 q)) := HN.out
      clear HN
      generalize s4.getD i ByteArray.empty = x at *
      generalize T x.data.toList = tt at *
      generalize B x.data.toList = bv at *
      by_cases h1 : bv < 0
      · go_wp2_with fail
        go_ret
        exact ⟨rfl, hB⟩
      · by_cases h2 : tt < bv
        · go_wp2_with fail
          go_ret
          exact ⟨rfl, hB⟩
        · have HF : Hid _ := HK.out ⟨by omega, by omega⟩
          clear HK
          go_wp2_with fail
          go_round
          case rel => exact ⟨i + 1, by omega, by go_num, HF.out⟩
          case measure => simp [intOf]; omega
    · obtain rfl : i = n4 := by omega
      go_wp2_with fail
      have hR := HR.out
      subst hR
      exact tail3 w wr H b0 b1 b2 b3 b4 n0 n1 n2 n3 i G0 G1 G2 G3 G4 s0 z1 s2 z3 s4 bt bm bb kt kb tz zb T B TH BH d0 d2 d4 nt ns bs AP.out m0 m2 m4 hnt hns hkb HT.out HBH.out HA.out HST.out HMS.out _ _ _ _ _ _ _ _ _ _ _ _ _ _ _ _ _ _ _ _ _ _ _ _ _ _ _ _ _ _ _ _ _ _ _ _ _ _ _ _ _ _ _ _ _ _ _ _ _ _ _ _ _ _ _ _ _ _ _ _ _ _ _ _ _ _ _ _ _ _ _ _ _ _ _ _ _ _ _ _ _ _ _ _ _ _ _ _ _ _ _ _ _ _ _ _ _ _ _ _ _ _ _ _ _ _ _ _ _ _ _ _ _ _ _ _ _ _ _ _ _ _ _ _ _ _ _ _ _ _ _ _ _ _ _ _ _ _ _ _ _ _ _ _ _ _ _ _ _ _ _ _ _ _ _ _ _ _ _ _ _ _ _ _ _ _ _ _ _ _ _ _ _ _ _ _ _ _ _ _ _ _ _ _ _ _ _ _ _ _ _ _ _ _ _ _ _ _ _ _ _ _ _ _ _ _ _ _ _ _ _ _ _ _ _ _ _ _ _ _ _ _ _ _ _ _ _ _ _ _ _ _ _ _ _ _ _ _ _ _ _ _ _ _ _ _ _ _ _ _ _ _ _ _ _ _ _ _ _ _ _ _ _ _ _ _ _ _ _ _ _ _ _ _ _ _ _ _ _ _ _ _ _ _ _ _ _ _ _ _ _ _ _ _ _ _ _ _ _ _ _ _ _ _ _ _ _ _ _ _ _ _ _ _ _ _ _ _ _ _ _ _ _ _ _ _ _ _ _ _ _ _ _ _ _ _ _ _ _ _ _ _ _ _ _ _ _ _ _ _ _ _ _ _ _ _ _ _ _ _ _ _
end Go.Proofs.Qxb6605259a
