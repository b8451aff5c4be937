/-
  THE LAW OF SKIP, from behind the sixth loop on.
-/
import Derived.Test.Qxb6605259aSp
namespace Go.Proofs.Qxb6605259a
open Go.RowKit Go.Maps

set_option maxRecDepth 100000 in
set_option maxHeartbeats 4000000 in
theorem tail6 (w wr : World) (b0 : Option Addr) (n0 d0 G0 nt bt bm bs bb kt km ks kb tz zb ad : Nat) (s0 : List ByteArray) (T S B : List UInt8 → Int) (TH SH BH : List UInt8 → Bool)
    (hB : Below w.heap.size w wr) (h0 : StrS wr b0 n0 G0 0 s0) (m0 : n0 ≤ 65536) (hnt : nt ≤ n0) (ht : MapZ wr bt kt T TH tz) (hm : MapZ wr bm km T TH tz) (hs : MapZ wr bs ks S SH (zb + ad)) (hb : MapZ wr bb kb B BH zb)
    (hz : zb + ad ≤ 1000000) (hT : ∀ i, i < nt → TH (key s0 i) = true)
    (v1 v2 v3 v4 v5 v6 v7 v8 v9 v10 v11 v13 v16 v19 v20 v21 v22 v23 v24 v25 v26 v27 v28 v30 v31 v32 v33 v34 v35 v36 v37 v38 v39 v40 v41 v42 v43 v44 v45 v46 v47 v48 v49 v50 v51 v52 v53 v54 v55 v56 v57 v58 v59 v60 v61 v62 v63 v64 v65 v66 v67 v68 v69 v70 v71 v72 v73 v74 v75 v76 v77 v78 v79 v80 v81 v82 v83 v84 v85 v86 v87 v88 v89 v90 v91 v92 v93 v94 v95 v96 v97 v98 v99 v100 v101 v102 v103 v104 v105 v106 v107 v108 v109 v110 v111 v112 v113 v114 v115 v116 v117 v118 v119 v120 v121 v122 v123 v124 v125 v126 v127 v128 v129 v130 v131 v132 v133 v134 v135 v136 v137 v138 v139 v140 v141 v142 v143 v144 v145 v146 v147 v148 v149 v150 v151 v152 v153 v154 v155 v156 v157 v158 v159 v160 v161 v162 v163 v164 v165 v166 v167 v168 v169 v170 v171 v172 v173 v174 v175 v176 v177 v178 v179 v180 v181 v182 v183 v184 v185 v186 v187 v188 v189 v190 v191 v192 v193 v194 v195 v196 v197 v198 v199 v200 v201 v202 v203 v204 v205 v206 v207 v208 v209 v210 v211 v212 v213 v214 v215 v216 v217 v218 v219 v220 v221 v222 v223 v224 v225 v226 v227 v228 v229 v230 v231 v232 v233 v234 v235 v236 v237 v238 v239 v240 v241 v242 v243 v244 v245 v246 v247 v248 v249 v250 v251 v252 v253 v254 v255 v256 v257 v258 v259 v260 v261 v262 v263 v264 v265 v266 v267 v268 v269 v270 v271 v272 v273 v274 v275 v276 v277 v278 v279 v280 v281 v282 v283 v284 v285 v286 v287 v288 v289 v290 v291 v292 v293 v294 v295 v296 v297 v298 v299 v300 v301 v302 v303 v304 v305 v306 v307 v308 v309 v310 v311 v312 v313 v314 v315 v316 v317 v318 v319 v320 v321 v322 v323 v324 v325 v326 v327 v328 v329 v330 v331 v332 v333 v334 v335 v336 v337 v338 v339 v340 v341 v342 v343 v344 v345 v346 v347 v348 v349 v350 v351 v352 v353 v354 v355 v356 v357 v358 v359 v360 v361 v362 v363 v364 v365 v366 v367 v368 v369 v370 : Value) :
    Code.wp Try.prog (dropS 30 (Try.f5.body.getD .skip)) (bodyPost Try.prog Try.f5 (Rq w)) ⟨#[.slice b0 n0 d0, v1, v2, v3, v4, v5, v6, v7, v8, v9, v10, v11, .int .i64 nt, v13, .map (some bt), .map (some bm), v16, .map (some bs), .map (some bb), v19, v20, v21, v22, v23, v24, v25, v26, v27, v28, .int .i64 ad, v30, v31, v32, v33, v34, v35, v36, v37, v38, v39, v40, v41, v42, v43, v44, v45, v46, v47, v48, v49, v50, v51, v52, v53, v54, v55, v56, v57, v58, v59, v60, v61, v62, v63, v64, v65, v66, v67, v68, v69, v70, v71, v72, v73, v74, v75, v76, v77, v78, v79, v80, v81, v82, v83, v84, v85, v86, v87, v88, v89, v90, v91, v92, v93, v94, v95, v96, v97, v98, v99, v100, v101, v102, v103, v104, v105, v106, v107, v108, v109, v110, v111, v112, v113, v114, v115, v116, v117, v118, v119, v120, v121, v122, v123, v124, v125, v126, v127, v128, v129, v130, v131, v132, v133, v134, v135, v136, v137, v138, v139, v140, v141, v142, v143, v144, v145, v146, v147, v148, v149, v150, v151, v152, v153, v154, v155, v156, v157, v158, v159, v160, v161, v162, v163, v164, v165, v166, v167, v168, v169, v170, v171, v172, v173, v174, v175, v176, v177, v178, v179, v180, v181, v182, v183, v184, v185, v186, v187, v188, v189, v190, v191, v192, v193, v194, v195, v196, v197, v198, v199, v200, v201, v202, v203, v204, v205, v206, v207, v208, v209, v210, v211, v212, v213, v214, v215, v216, v217, v218, v219, v220, v221, v222, v223, v224, v225, v226, v227, v228, v229, v230, v231, v232, v233, v234, v235, v236, v237, v238, v239, v240, v241, v242, v243, v244, v245, v246, v247, v248, v249, v250, v251, v252, v253, v254, v255, v256, v257, v258, v259, v260, v261, v262, v263, v264, v265, v266, v267, v268, v269, v270, v271, v272, v273, v274, v275, v276, v277, v278, v279, v280, v281, v282, v283, v284, v285, v286, v287, v288, v289, v290, v291, v292, v293, v294, v295, v296, v297, v298, v299, v300, v301, v302, v303, v304, v305, v306, v307, v308, v309, v310, v311, v312, v313, v314, v315, v316, v317, v318, v319, v320, v321, v322, v323, v324, v325, v326, v327, v328, v329, v330, v331, v332, v333, v334, v335, v336, v337, v338, v339, v340, v341, v342, v343, v344, v345, v346, v347, v348, v349, v350, v351, v352, v353, v354, v355, v356, v357, v358, v359, v360, v361, v362, v363, v364, v365, v366, v367, v368, v369, v370], []⟩ wr := by
  have hix := index28 d0 h0.2.1
  simp only [Nat.zero_add] at hix
  have HC : Hid _ := h0.2.2.1
  have HZ : Hid _ := h0.2.2.2
  have l1 := ht.len
  have l2 := hm.len
  have l3 := hs.len
  have l4 := hb.len
  have HT : Hid _ := hT
  have MT : Hid _ := ht
  have MM : Hid _ := hm
  clear ht hm hs hb hT h0
  conv => arg 2; whnf
  have q1 : (((zb + ad : Nat) : Int) == (zb : Int) + (ad : Int)) = true := by simp
  go_wp2_with fail
  go_loop [42] (fun i => ∃ k : Nat, k ≤ nt ∧ i = .int .i64 k) (fun i => nt - (intOf i).toNat)
  case atStart => exact ⟨0, Nat.zero_le _, rfl⟩
  case round =>
    clear l1 l2 l3 l4 q1
    obtain ⟨k, hk, rfl⟩ := hrel
    by_cases hlt : k < nt
    · have hltz : (k : Int) < (nt : Int) := by omega
      have hlt0 : k < n0 := by omega
      have hc := HC.out k hlt0
      rw [Nat.zero_add] at hc
      have e1 := MapZ.look_ok MT.out (HZ.out k hlt0)
      have e2 := (MapZ.look MM.out (HZ.out k hlt0)).1
      have e3 : TH (s0.getD k ByteArray.empty).data.toList = true := HT.out k hlt
      rw [e3] at e1
      generalize s0.getD k ByteArray.empty = x at hc e1 e2
      generalize T x.data.toList = y at e1 e2
      clear e3
      go_wp2_with fail
      go_round
      case rel => exact ⟨k + 1, by omega, by go_num⟩
      case measure => simp [intOf]; omega
    · go_wp2_with fail
      go_ret
      exact ⟨rfl, hB⟩
end Go.Proofs.Qxb6605259a
