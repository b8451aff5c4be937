/-
  THE LAW OF SKIP, from behind the third loop on.
-/
import Derived.Test.Qxb6605259aS5
import Derived.Test.Qxb6605259aSg
namespace Go.Proofs.Qxb6605259a
open Go.RowKit Go.Maps

set_option maxRecDepth 100000 in
set_option maxHeartbeats 4000000 in
theorem tail3b (w wr : World) (H : Nat) (b0 b1 b2 b3 b4 : Option Addr) (n0 n1 n2 n3 n4 G0 G1 G2 G3 G4 : Nat) (s0 : List ByteArray) (z1 : List Int) (s2 : List ByteArray) (z3 : List Int) (s4 : List ByteArray) (bt bm bb kt kb tz zb : Nat) (T B : List UInt8 → Int) (TH BH : List UInt8 → Bool) (d0 d2 d4 nt ns bs bz : Nat) (ap : Apart H bt bm bb bs bz) (m0 : n0 ≤ 65536) (m2 : n2 ≤ 65536) (m4 : n4 ≤ 65536) (hnt : nt ≤ n0) (hns : ns ≤ n2) (hkb : kb ≤ 65536) (hT : ∀ i, i < nt → TH (key s0 i) = true) (hBH : ∀ i, i < ns → BH (key s2 i) = true) (hRO : ∀ i, i < n4 → 0 ≤ B (key s4 i) ∧ B (key s4 i) ≤ T (key s4 i))
    (hst : Still w wr H b0 b1 b2 b3 b4 n0 n1 n2 n3 n4 G0 G1 G2 G3 G4 s0 z1 s2 z3 s4 bt bm bb kt kb tz zb T B TH BH) (hms : MapZ wr bs kb B BH zb) (hmz : MapZ wr bz 0 (fun _ => 0) (fun _ => false) 0)
    (v1 v3 v5 v6 v7 v8 v9 v10 v11 v16 v19 v20 v21 v22 v24 v25 v26 v27 v28 v29 v30 v31 v32 v33 v34 v35 v36 v37 v38 v39 v40 v41 v42 v43 v44 v45 v46 v47 v48 v49 v50 v51 v52 v53 v54 v55 v56 v57 v58 v59 v60 v61 v62 v63 v64 v65 v66 v67 v68 v69 v70 v71 v72 v73 v74 v75 v76 v77 v78 v79 v80 v81 v82 v83 v84 v85 v86 v87 v88 v89 v90 v91 v92 v93 v94 v95 v96 v97 v98 v99 v100 v101 v102 v103 v104 v105 v106 v107 v108 v109 v110 v111 v112 v113 v114 v115 v116 v117 v118 v119 v120 v121 v122 v123 v124 v125 v126 v127 v128 v129 v130 v131 v132 v133 v134 v135 v136 v137 v138 v139 v140 v141 v142 v143 v144 v145 v146 v147 v148 v149 v150 v151 v152 v153 v154 v155 v156 v157 v158 v159 v160 v161 v162 v163 v164 v165 v166 v167 v168 v169 v170 v171 v172 v173 v174 v175 v176 v177 v178 v179 v180 v181 v182 v183 v184 v185 v186 v187 v188 v189 v190 v191 v192 v193 v194 v195 v196 v197 v198 v199 v200 v201 v202 v203 v204 v205 v206 v207 v208 v209 v210 v211 v212 v213 v214 v215 v216 v217 v218 v219 v220 v221 v222 v223 v224 v225 v226 v227 v228 v229 v230 v231 v232 v233 v234 v235 v236 v237 v238 v239 v240 v241 v242 v243 v244 v245 v246 v247 v248 v249 v250 v251 v252 v253 v254 v255 v256 v257 v258 v259 v260 v261 v262 v263 v264 v265 v266 v267 v268 v269 v270 v271 v272 v273 v274 v275 v276 v277 v278 v279 v280 v281 v282 v283 v284 v285 v286 v287 v288 v289 v290 v291 v292 v293 v294 v295 v296 v297 v298 v299 v300 v301 v302 v303 v304 v305 v306 v307 v308 v309 v310 v311 v312 v313 v314 v315 v316 v317 v318 v319 v320 v321 v322 v323 v324 v325 v326 v327 v328 v329 v330 v331 v332 v333 v334 v335 v336 v337 v338 v339 v340 v341 v342 v343 v344 v345 v346 v347 v348 v349 v350 v351 v352 v353 v354 v355 v356 v357 v358 v359 v360 v361 v362 v363 v364 v365 v366 v367 v368 v369 v370 : Value) :
    Code.wp Try.prog (dropS 25 (Try.f5.body.getD .skip)) (bodyPost Try.prog Try.f5 (Rq w)) ⟨#[.slice b0 n0 d0, v1, .slice b2 n2 d2, v3, .slice b4 n4 d4, v5, v6, v7, v8, v9, v10, v11, .int .i64 nt, .int .i64 ns, .map (some bt), .map (some bm), v16, .map (some bs), .map (some bb), v19, v20, v21, v22, .map (some bz), v24, v25, v26, v27, v28, v29, v30, v31, v32, v33, v34, v35, v36, v37, v38, v39, v40, v41, v42, v43, v44, v45, v46, v47, v48, v49, v50, v51, v52, v53, v54, v55, v56, v57, v58, v59, v60, v61, v62, v63, v64, v65, v66, v67, v68, v69, v70, v71, v72, v73, v74, v75, v76, v77, v78, v79, v80, v81, v82, v83, v84, v85, v86, v87, v88, v89, v90, v91, v92, v93, v94, v95, v96, v97, v98, v99, v100, v101, v102, v103, v104, v105, v106, v107, v108, v109, v110, v111, v112, v113, v114, v115, v116, v117, v118, v119, v120, v121, v122, v123, v124, v125, v126, v127, v128, v129, v130, v131, v132, v133, v134, v135, v136, v137, v138, v139, v140, v141, v142, v143, v144, v145, v146, v147, v148, v149, v150, v151, v152, v153, v154, v155, v156, v157, v158, v159, v160, v161, v162, v163, v164, v165, v166, v167, v168, v169, v170, v171, v172, v173, v174, v175, v176, v177, v178, v179, v180, v181, v182, v183, v184, v185, v186, v187, v188, v189, v190, v191, v192, v193, v194, v195, v196, v197, v198, v199, v200, v201, v202, v203, v204, v205, v206, v207, v208, v209, v210, v211, v212, v213, v214, v215, v216, v217, v218, v219, v220, v221, v222, v223, v224, v225, v226, v227, v228, v229, v230, v231, v232, v233, v234, v235, v236, v237, v238, v239, v240, v241, v242, v243, v244, v245, v246, v247, v248, v249, v250, v251, v252, v253, v254, v255, v256, v257, v258, v259, v260, v261, v262, v263, v264, v265, v266, v267, v268, v269, v270, v271, v272, v273, v274, v275, v276, v277, v278, v279, v280, v281, v282, v283, v284, v285, v286, v287, v288, v289, v290, v291, v292, v293, v294, v295, v296, v297, v298, v299, v300, v301, v302, v303, v304, v305, v306, v307, v308, v309, v310, v311, v312, v313, v314, v315, v316, v317, v318, v319, v320, v321, v322, v323, v324, v325, v326, v327, v328, v329, v330, v331, v332, v333, v334, v335, v336, v337, v338, v339, v340, v341, v342, v343, v344, v345, v346, v347, v348, v349, v350, v351, v352, v353, v354, v355, v356, v357, v358, v359, v360, v361, v362, v363, v364, v365, v366, v367, v368, v369, v370], []⟩ wr := by
  obtain ⟨i0, hi, hz0, hz1, hz2⟩ := info_parts Try.info9
  have AP : Hid _ := ap
  have abz := ap.2.2.2.2.2.2.2.2
  have HT : Hid _ := hT
  have HBH : Hid _ := hBH
  have HRO : Hid _ := hRO
  have HST0 : Hid _ := hst
  have HMS0 : Hid _ := hms
  have HMZ0 : Hid _ := hmz
  have hix := index28 d4 hst.1.2.2.2.2.1.1.2.1
  simp only [Nat.zero_add] at hix
  have hbz : bz + 1 ≤ wr.heap.size := hmz.lt
  have hzb : zb ≤ kb := hms.size_le
  clear ap hT hBH hRO hst hms hmz
  refine wp_drop (D := (dropS 26 (Try.f5.body.getD .skip))) rfl (fun R hR => ?_)
  have HR : Hid _ := hR
  clear hR
  conv => arg 2; whnf
  go_wp2_with (at_make; refine wpList_make_own _ rfl _ _ 28 rfl (bz + 1) 9 i0 _ 1 Try.underlying28 hi hz0 hz1 .i64 .i64 (n4 : Int) n4 rfl rfl rfl (by rw [hz2]; omega) (by unfold maxLen; omega) hbz ?_; intro w2 hown2 hgr2)
  have hR := HR.out
  subst hR
  clear HR
  refine wp_drop (D := (dropS 27 (Try.f5.body.getD .skip))) rfl (fun R hR => ?_)
  have HR : Hid _ := hR
  clear hR
  have hL0 : L4 w w2 H b0 b1 b2 b3 b4 n0 n1 n2 n3 n4 G0 G1 G2 G3 G4 s0 z1 s2 z3 s4 bt bm bb kt kb tz zb T B TH BH bs bz 0 wr.heap.size n4 := by
    refine ⟨Still.grown HST0.out hgr2 (fun k e => by cases e), ?_, ⟨_, _, MapZ.kept HMZ0.out hgr2 (by simp)⟩, hown2⟩
    refine ((MapZ.kept HMS0.out hgr2 (by simp)).congr (fun k => ?_) (fun k => ?_))
    · unfold skV pas cnt; simp
    · unfold skH pas cnt; simp
  have HL0 : Hid _ := hL0
  clear hL0 hown2 hgr2 HST0 HMS0 HMZ0
  conv => arg 2; whnf
  go_wp2_with fail
  go_loopw [24, 25] (fun v j wr => ∃ i g cap : Nat, i ≤ n4 ∧ j = .int .i64 i ∧ v = .slice (some ⟨g, 0, none⟩) (dst s4 i).length cap ∧ L4 w wr H b0 b1 b2 b3 b4 n0 n1 n2 n3 n4 G0 G1 G2 G3 G4 s0 z1 s2 z3 s4 bt bm bb kt kb tz zb T B TH BH bs bz i g cap) (fun _ j _ => n4 - (intOf j).toNat)
  case atStart => exact ⟨0, wr.heap.size, n4, Nat.zero_le _, rfl, rfl, HL0.out⟩
  case round =>
    clear HL0 hbz
    obtain ⟨i, g, cap, hin, rfl, rfl, hL⟩ := hrel
    obtain ⟨hst, hms, ⟨zh, zz, hmz⟩, hown⟩ := hL
    have HST : Hid _ := hst
    have HMS : Hid _ := hms
    have HMZ : Hid _ := hmz
    have hdl := dst_len s4 i
    have hbz := hmz.lt
    have hgf := hown.facts
    by_cases hlt : i < n4
    · have hltz : (i : Int) < (n4 : Int) := by omega
      have hc := hst.1.2.2.2.2.1.1.2.2.1 i hlt
      have hs := hst.1.2.2.2.2.1.1.2.2.2 i hlt
      rw [Nat.zero_add] at hc
      have ez := (hmz.look hs).1
      have hcn := cnt_le s4 (key s4 i) i
      obtain ⟨x, hx⟩ : ∃ x, s4.getD i ByteArray.empty = x := ⟨_, rfl⟩
      have HX : Hid (key s4 i = x.data.toList) := by refine (?_ : _ = _); unfold key; rw [hx]
      have hdst : Hid (dst s4 (i + 1) = if cnt s4 i (key s4 i) = 0 then dst s4 i ++ [x] else dst s4 i) := by rw [← hx]; rfl
      rw [hx] at hc hs ez
      obtain ⟨c, hcc⟩ : ∃ c, cnt s4 i (key s4 i) = c := ⟨_, rfl⟩
      have HC : Hid (cnt s4 i (key s4 i) = c) := hcc
      have ez' : (Instr.lookup 34 (.map (some bz)) (.string x) false).run Try.prog wr = .ok (.int .i64 (c : Int)) wr := by
        rw [← HC.out, HX.out]; exact ez
      rw [hcc] at hcn
      have HOWN0 : Hid _ := hown
      clear ez hx hcc hst hms hmz hown
      by_cases hp : c = 0
      · have q0 : ((c : Int) == 0) = true := by rw [hp]; rfl
        have HD : Hid (dst s4 (i + 1) = dst s4 i ++ [x]) := by refine (?_ : _ = _); rw [hdst.out, if_pos (HC.out.trans hp)]
        clear hp
        go_wp2_with (at_builtin; refine wpList_append_lies _ rfl (.tmp 226) (.tmp 228) 28 rfl (bz + 1) 9 i0 _ 1 16 Try.underlying28 hi hz0 hz1 hz2 rfl (by decide) _ _ _ rfl (World.ownsRow.alloc HOWN0.out _) ⟨wr.heap.size, 0, none⟩ 1 1 [.string x] rfl rfl (World.news_of_block (heap_alloc_new wr _)) ?c2 (by decide) ?c3 ?c4 ?c5 (wr.heap.size + 1) (by simp) ?_)
        case c2 => rfl
        case c3 => unfold maxLen; omega
        case c4 => omega
        case c5 => omega
        intro g4 cap4 w4 hown4 hgr4 hat4 hlt4
        obtain ⟨hown5, hgr5⟩ := app_strs hown4 hgr4
        rw [← HD.out] at hown5
        have HOWN : Hid _ := hown5
        have hgne : ∀ k, some g = some k → H ≤ k ∧ k ≠ bt ∧ k ≠ bm ∧ k ≠ bb := fun k e => by
          obtain ⟨a1, a2, a3, a4, a5, a6, a7, a8, a9⟩ := AP.out
          cases e; exact ⟨by omega, by omega, by omega, by omega⟩
        have HST : Hid _ := Still.grown HST.out hgr5 hgne
        have HMS : Hid _ := MapZ.kept HMS.out hgr5 (fun e => by cases e; omega)
        have HMZ : Hid _ := MapZ.kept HMZ.out hgr5 (fun e => by cases e; omega)
        clear hgne hown4 hgr4 hat4 hlt4 hown5 hgr5
        have em := (MapZ.look HST.out.2.2.1 hs).1
        have ebv := (MapZ.look HST.out.2.2.2 hs).1
        have hbd := bounds_i64 (MapZ.look HST.out.2.2.1 hs).2
        have hro := HRO.out i hlt
        rw [HX.out] at hro
        by_cases hw : (c : Int) < T x.data.toList - B x.data.toList
        · have HNO : Hid _ := (skV_yes (ss := s4) (i := i) (by rw [HX.out]; exact hro.1) (by rw [HC.out, HX.out]; exact hw)).1
          have h3 := (skV_yes (ss := s4) (i := i) (by rw [HX.out]; exact hro.1) (by rw [HC.out, HX.out]; exact hw)).2
          rw [HX.out] at h3
          have H3 : Hid _ := h3
          clear h3
          obtain ⟨h1, h2⟩ := hro
          have hT0 := hbd.2
          clear hbd
          go_wp2_with fail
          refine (zzskip_yes bt bs kt (kb + i) tz (zb + add T B BH (dst s4 i)) T (skV T B s4 i) TH (skH T B BH s4 i) x hs _ HST.out.2.1 HMS.out (by unfold maxLen; omega) H3.out.1 H3.out.2).mono ?_
          rintro e W1 ⟨rfl, hms1, hg1⟩
          obtain ⟨W2, hrun, hmz2, hg2⟩ := (MapZ.kept HMZ.out hg1 (fun e => by cases e; omega)).put (v := (c : Int) + 1) (by unfold maxLen; omega) hs (WalkArith.wf_i64 (by omega))
          have HL : Hid (L4 w W2 H b0 b1 b2 b3 b4 n0 n1 n2 n3 n4 G0 G1 G2 G3 G4 s0 z1 s2 z3 s4 bt bm bb kt kb tz zb T B TH BH bs bz (i + 1) g4 cap4) := by
            rw [← HX.out] at hmz2 hms1
            rw [← HC.out] at hmz2
            exact L4.yes AP.out HST.out hms1 HOWN.out hg1 hg2 hmz2 HNO.out
          clear hg1 hg2 hmz2 hms1 HNO
          go_wp2_with fail
          go_roundw
          case rel => exact ⟨i + 1, g4, cap4, by omega, by go_num, by rw [HD.out, List.length_append]; rfl, HL.out⟩
          case measure => simp [intOf]; omega
        · have HNO : Hid _ := (skV_no (ss := s4) (i := i) (by rw [HX.out]; exact hro.2) (by rw [HC.out, HX.out]; exact hw)).1
          have h3 := (skV_no (ss := s4) (i := i) (by rw [HX.out]; exact hro.2) (by rw [HC.out, HX.out]; exact hw)).2
          rw [HX.out] at h3
          have H3 : Hid _ := h3
          clear h3
          obtain ⟨h1, h2⟩ := hro
          have hT0 := hbd.2
          clear hbd
          go_wp2_with fail
          refine (zzskip_no bt bs kt (kb + i) tz (zb + add T B BH (dst s4 i)) T (skV T B s4 i) TH (skH T B BH s4 i) x hs _ HST.out.2.1 HMS.out H3.out).mono ?_
          rintro e W1 ⟨rfl, hg1⟩
          obtain ⟨W2, hrun, hmz2, hg2⟩ := (MapZ.kept HMZ.out hg1 (by simp)).put (v := (c : Int) + 1) (by unfold maxLen; omega) hs (WalkArith.wf_i64 (by omega))
          have HL : Hid (L4 w W2 H b0 b1 b2 b3 b4 n0 n1 n2 n3 n4 G0 G1 G2 G3 G4 s0 z1 s2 z3 s4 bt bm bb kt kb tz zb T B TH BH bs bz (i + 1) g4 cap4) := by
            rw [← HX.out] at hmz2
            rw [← HC.out] at hmz2
            exact L4.no AP.out HST.out HMS.out HOWN.out hg1 hg2 hmz2 HNO.out
          clear hg1 hg2 hmz2 HNO
          go_wp2_with fail
          go_roundw
          case rel => exact ⟨i + 1, g4, cap4, by omega, by go_num, by rw [HD.out, List.length_append]; rfl, HL.out⟩
          case measure => simp [intOf]; omega
      · have q0 : ((c : Int) == 0) = false := beq_eq_false_iff_ne.2 (by omega)
        have HD : Hid (dst s4 (i + 1) = dst s4 i) := by refine (?_ : _ = _); rw [hdst.out, if_neg (fun e => hp (HC.out.symm.trans e))]
        have HOWN : Hid (OwnS wr (bz + 1) g cap (dst s4 (i + 1))) := by rw [HD.out]; exact HOWN0.out
        clear hp HOWN0
        have em := (MapZ.look HST.out.2.2.1 hs).1
        have ebv := (MapZ.look HST.out.2.2.2 hs).1
        have hbd := bounds_i64 (MapZ.look HST.out.2.2.1 hs).2
        have hro := HRO.out i hlt
        rw [HX.out] at hro
        by_cases hw : (c : Int) < T x.data.toList - B x.data.toList
        · have HNO : Hid _ := (skV_yes (ss := s4) (i := i) (by rw [HX.out]; exact hro.1) (by rw [HC.out, HX.out]; exact hw)).1
          have h3 := (skV_yes (ss := s4) (i := i) (by rw [HX.out]; exact hro.1) (by rw [HC.out, HX.out]; exact hw)).2
          rw [HX.out] at h3
          have H3 : Hid _ := h3
          clear h3
          obtain ⟨h1, h2⟩ := hro
          have hT0 := hbd.2
          clear hbd
          go_wp2_with fail
          refine (zzskip_yes bt bs kt (kb + i) tz (zb + add T B BH (dst s4 i)) T (skV T B s4 i) TH (skH T B BH s4 i) x hs _ HST.out.2.1 HMS.out (by unfold maxLen; omega) H3.out.1 H3.out.2).mono ?_
          rintro e W1 ⟨rfl, hms1, hg1⟩
          obtain ⟨W2, hrun, hmz2, hg2⟩ := (MapZ.kept HMZ.out hg1 (fun e => by cases e; omega)).put (v := (c : Int) + 1) (by unfold maxLen; omega) hs (WalkArith.wf_i64 (by omega))
          have HL : Hid (L4 w W2 H b0 b1 b2 b3 b4 n0 n1 n2 n3 n4 G0 G1 G2 G3 G4 s0 z1 s2 z3 s4 bt bm bb kt kb tz zb T B TH BH bs bz (i + 1) g cap) := by
            rw [← HX.out] at hmz2 hms1
            rw [← HC.out] at hmz2
            exact L4.yes AP.out HST.out hms1 HOWN.out hg1 hg2 hmz2 HNO.out
          clear hg1 hg2 hmz2 hms1 HNO
          go_wp2_with fail
          go_roundw
          case rel => exact ⟨i + 1, g, cap, by omega, by go_num, by rw [HD.out], HL.out⟩
          case measure => simp [intOf]; omega
        · have HNO : Hid _ := (skV_no (ss := s4) (i := i) (by rw [HX.out]; exact hro.2) (by rw [HC.out, HX.out]; exact hw)).1
          have h3 := (skV_no (ss := s4) (i := i) (by rw [HX.out]; exact hro.2) (by rw [HC.out, HX.out]; exact hw)).2
          rw [HX.out] at h3
          have H3 : Hid _ := h3
          clear h3
          obtain ⟨h1, h2⟩ := hro
          have hT0 := hbd.2
          clear hbd
          go_wp2_with fail
          refine (zzskip_no bt bs kt (kb + i) tz (zb + add T B BH (dst s4 i)) T (skV T B s4 i) TH (skH T B BH s4 i) x hs _ HST.out.2.1 HMS.out H3.out).mono ?_
          rintro e W1 ⟨rfl, hg1⟩
          obtain ⟨W2, hrun, hmz2, hg2⟩ := (MapZ.kept HMZ.out hg1 (by simp)).put (v := (c : Int) + 1) (by unfold maxLen; omega) hs (WalkArith.wf_i64 (by omega))
          have HL : Hid (L4 w W2 H b0 b1 b2 b3 b4 n0 n1 n2 n3 n4 G0 G1 G2 G3 G4 s0 z1 s2 z3 s4 bt bm bb kt kb tz zb T B TH BH bs bz (i + 1) g cap) := by
            rw [← HX.out] at hmz2
            rw [← HC.out] at hmz2
            exact L4.no AP.out HST.out HMS.out HOWN.out hg1 hg2 hmz2 HNO.out
          clear hg1 hg2 hmz2 HNO
          go_wp2_with fail
          go_roundw
          case rel => exact ⟨i + 1, g, cap, by omega, by go_num, by rw [HD.out], HL.out⟩
          case measure => simp [intOf]; omega
    · obtain rfl : i = n4 := by omega
      have h0 := hst.1.1.1
      have h2 := hst.1.2.2.1.1
      have hB := hst.1.2.2.2.2.2.1
      have H0 : Hid _ := h0
      have H2 : Hid _ := h2
      have HO : Hid _ := hown
      have h4 := hst.1.2.2.2.2.1.1.2.2.2
      have hsz : Hid (∀ x, x ∈ dst s4 i → x.size ≤ maxLen) := fun x hx => by
        obtain ⟨⟨j, hj, e⟩, _⟩ := dst_mem s4 i x hx
        rw [e]; exact h4 j hj
      clear hst hms hmz hown h0 h2 h4 hbz hgf hix
      go_wp2_with fail
      have hR := HR.out
      subst hR
      refine tail4 w wr b0 b2 n0 d0 G0 nt n2 d2 G2 ns g (dst s4 i).length cap bt bm bs bb bz kt kt (kb + i) kb i tz zb zz s0 s2 (dst s4 i) T (skV T B s4 i) B (fun x => (cnt s4 i x : Int)) TH (skH T B BH s4 i) BH zh hB H0.out m0 hnt H2.out m2 hns (OwnS.strs HO.out hsz.out) (by omega) HST.out.2.1 HST.out.2.2.1 HMS.out HST.out.2.2.2 HMZ.out (by omega) HT.out ?_ ?_ _ _ _ _ _ _ _ _ _ _ _ _ _ _ _ _ _ _ _ _ _ _ _ _ _ _ _ _ _ _ _ _ _ _ _ _ _ _ _ _ _ _ _ _ _ _ _ _ _ _ _ _ _ _ _ _ _ _ _ _ _ _ _ _ _ _ _ _ _ _ _ _ _ _ _ _ _ _ _ _ _ _ _ _ _ _ _ _ _ _ _ _ _ _ _ _ _ _ _ _ _ _ _ _ _ _ _ _ _ _ _ _ _ _ _ _ _ _ _ _ _ _ _ _ _ _ _ _ _ _ _ _ _ _ _ _ _ _ _ _ _ _ _ _ _ _ _ _ _ _ _ _ _ _ _ _ _ _ _ _ _ _ _ _ _ _ _ _ _ _ _ _ _ _ _ _ _ _ _ _ _ _ _ _ _ _ _ _ _ _ _ _ _ _ _ _ _ _ _ _ _ _ _ _ _ _ _ _ _ _ _ _ _ _ _ _ _ _ _ _ _ _ _ _ _ _ _ _ _ _ _ _ _ _ _ _ _ _ _ _ _ _ _ _ _ _ _ _ _ _ _ _ _ _ _ _ _ _ _ _ _ _ _ _ _ _ _ _ _ _ _ _ _ _ _ _ _ _ _ _ _ _ _ _ _ _ _ _ _ _ _ _ _ _ _ _ _ _ _ _ _ _ _ _ _ _ _ _ _ _ _ _ _ _ _ _ _ _ _ _ _ _ _ _ _ _ _ _ _ _ _ _ _ _ _ _ _ _ _ _ _ _ _ _ _ _ _ _ _ _ _ _ _ _ _ _ _ _ _ _ _
      · intro j hj e
        have e' : cnt s4 i (key s2 j) = 0 := by simpa using e
        unfold skV skH pas
        rw [e', HBH.out j hj]
        simp
      · intro j hj
        have hm : (dst s4 i).getD j ByteArray.empty ∈ dst s4 i := by
          rw [List.getD_eq_getElem?_getD, List.getElem?_eq_getElem hj]; exact List.getElem_mem hj
        obtain ⟨⟨q, hq, e⟩, hpos⟩ := dst_mem s4 i _ hm
        have hk : key (dst s4 i) j = key s4 q := by unfold key; rw [e]
        have hpos' : 0 < cnt s4 i (key s4 q) := by rw [← hk]; exact hpos
        have hr := HRO.out q hq
        have hcl := cnt_le s4 (key s4 q) i
        rw [hk]
        unfold DF skV skH pas room
        refine ⟨hr.1, hr.2, by simpa using hpos', by simp; omega, fun h => ?_, fun h => ?_, ?_⟩
        · simp only at h; omega
        · have h' : (cnt s4 i (key s4 q) : Int) ≤ T (key s4 q) - B (key s4 q) := h
          show B (key s4 q) + ((min (cnt s4 i (key s4 q)) (T (key s4 q) - B (key s4 q)).toNat : Nat) : Int) = B (key s4 q) + (cnt s4 i (key s4 q) : Int)
          omega
        · congr 1
          exact decide_eq_decide.2 (by omega)
end Go.Proofs.Qxb6605259a
