/-
  THE LAW OF SKIP, from behind the fourth loop on.
-/
import Derived.Test.Qxb6605259aS6
namespace Go.Proofs.Qxb6605259a
open Go.RowKit Go.Maps

/-- what is known of a distinct key. -/
def DF (T S B Z : List UInt8 → Int) (SH BH : List UInt8 → Bool) (x : List UInt8) : Prop :=
  0 ≤ B x ∧ B x ≤ T x ∧ 0 < Z x ∧ Z x ≤ 65536 ∧ (T x - B x < Z x → S x = T x) ∧ (Z x ≤ T x - B x → S x = B x + Z x) ∧ SH x = (BH x || decide (0 < room T B x))
theorem take_succ_getD {ds : List ByteArray} {k : Nat} (h : k < ds.length) : ds.take (k + 1) = ds.take k ++ [ds.getD k ByteArray.empty] := by
  rw [List.take_add_one, List.getD_eq_getElem?_getD, List.getElem?_eq_getElem h]; rfl
theorem add_succ {T B : List UInt8 → Int} {BH : List UInt8 → Bool} {ds : List ByteArray} {k : Nat} (h : k < ds.length) :
    add T B BH (ds.take (k + 1)) = add T B BH (ds.take k) + if nw T B BH (ds.getD k ByteArray.empty) then 1 else 0 := by
  rw [take_succ_getD h]; unfold add; rw [List.countP_append, List.countP_cons, List.countP_nil, Nat.zero_add]
theorem nw_true {T B : List UInt8 → Int} {BH : List UInt8 → Bool} {x : ByteArray} (h : BH x.data.toList = true) : nw T B BH x = false := by unfold nw; rw [h]; rfl
theorem nw_none {T B : List UInt8 → Int} {BH : List UInt8 → Bool} {x : ByteArray} (h : T x.data.toList - B x.data.toList ≤ 0) : nw T B BH x = false := by
  unfold nw room; have : ¬ 0 < (T x.data.toList - B x.data.toList).toNat := by omega
  simp [this]
theorem nw_some {T B : List UInt8 → Int} {BH : List UInt8 → Bool} {x : ByteArray} (h : 0 < T x.data.toList - B x.data.toList) (hb : BH x.data.toList = false) : nw T B BH x = true := by
  unfold nw room; have : 0 < (T x.data.toList - B x.data.toList).toNat := by omega
  simp [this, hb]
theorem add_le {T B : List UInt8 → Int} {BH : List UInt8 → Bool} (ds : List ByteArray) : add T B BH ds ≤ ds.length := List.countP_le_length

set_option maxRecDepth 100000 in
set_option maxHeartbeats 4000000 in
theorem tail4 (w wr : World) (b0 b2 : Option Addr) (n0 d0 G0 nt n2 d2 G2 ns gd nd cd bt bm bs bb bz kt km ks kb kz tz zb zz : Nat) (s0 s2 ds : List ByteArray) (T S B Z : List UInt8 → Int) (TH SH BH ZH : List UInt8 → Bool)
    (hB : Below w.heap.size w wr) (h0 : StrS wr b0 n0 G0 0 s0) (m0 : n0 ≤ 65536) (hnt : nt ≤ n0) (h2 : StrS wr b2 n2 G2 0 s2) (m2 : n2 ≤ 65536) (hns : ns ≤ n2) (hd : StrS wr (some ⟨gd, 0, none⟩) nd gd 0 ds) (md : nd ≤ 65536) (ht : MapZ wr bt kt T TH tz) (hm : MapZ wr bm km T TH tz) (hs : MapZ wr bs ks S SH (zb + add T B BH ds)) (hb : MapZ wr bb kb B BH zb) (hzz : MapZ wr bz kz Z ZH zz)
    (hz : zb ≤ 65536) (hT : ∀ i, i < nt → TH (key s0 i) = true) (hS : ∀ i, i < ns → Z (key s2 i) = 0 → S (key s2 i) = B (key s2 i) ∧ SH (key s2 i) = true) (hD : ∀ k, k < nd → DF T S B Z SH BH (key ds k))
    (v1 v3 v4 v5 v6 v7 v8 v9 v10 v11 v16 v19 v20 v21 v22 v25 v26 v27 v28 v29 v30 v31 v32 v33 v34 v35 v36 v37 v38 v39 v40 v41 v42 v43 v44 v45 v46 v47 v48 v49 v50 v51 v52 v53 v54 v55 v56 v57 v58 v59 v60 v61 v62 v63 v64 v65 v66 v67 v68 v69 v70 v71 v72 v73 v74 v75 v76 v77 v78 v79 v80 v81 v82 v83 v84 v85 v86 v87 v88 v89 v90 v91 v92 v93 v94 v95 v96 v97 v98 v99 v100 v101 v102 v103 v104 v105 v106 v107 v108 v109 v110 v111 v112 v113 v114 v115 v116 v117 v118 v119 v120 v121 v122 v123 v124 v125 v126 v127 v128 v129 v130 v131 v132 v133 v134 v135 v136 v137 v138 v139 v140 v141 v142 v143 v144 v145 v146 v147 v148 v149 v150 v151 v152 v153 v154 v155 v156 v157 v158 v159 v160 v161 v162 v163 v164 v165 v166 v167 v168 v169 v170 v171 v172 v173 v174 v175 v176 v177 v178 v179 v180 v181 v182 v183 v184 v185 v186 v187 v188 v189 v190 v191 v192 v193 v194 v195 v196 v197 v198 v199 v200 v201 v202 v203 v204 v205 v206 v207 v208 v209 v210 v211 v212 v213 v214 v215 v216 v217 v218 v219 v220 v221 v222 v223 v224 v225 v226 v227 v228 v229 v230 v231 v232 v233 v234 v235 v236 v237 v238 v239 v240 v241 v242 v243 v244 v245 v246 v247 v248 v249 v250 v251 v252 v253 v254 v255 v256 v257 v258 v259 v260 v261 v262 v263 v264 v265 v266 v267 v268 v269 v270 v271 v272 v273 v274 v275 v276 v277 v278 v279 v280 v281 v282 v283 v284 v285 v286 v287 v288 v289 v290 v291 v292 v293 v294 v295 v296 v297 v298 v299 v300 v301 v302 v303 v304 v305 v306 v307 v308 v309 v310 v311 v312 v313 v314 v315 v316 v317 v318 v319 v320 v321 v322 v323 v324 v325 v326 v327 v328 v329 v330 v331 v332 v333 v334 v335 v336 v337 v338 v339 v340 v341 v342 v343 v344 v345 v346 v347 v348 v349 v350 v351 v352 v353 v354 v355 v356 v357 v358 v359 v360 v361 v362 v363 v364 v365 v366 v367 v368 v369 v370 : Value) :
    Code.wp Try.prog (dropS 27 (Try.f5.body.getD .skip)) (bodyPost Try.prog Try.f5 (Rq w)) ⟨#[.slice b0 n0 d0, v1, .slice b2 n2 d2, v3, v4, v5, v6, v7, v8, v9, v10, v11, .int .i64 nt, .int .i64 ns, .map (some bt), .map (some bm), v16, .map (some bs), .map (some bb), v19, v20, v21, v22, .map (some bz), .slice (some ⟨gd, 0, none⟩) nd cd, v25, v26, v27, v28, v29, v30, v31, v32, v33, v34, v35, v36, v37, v38, v39, v40, v41, v42, v43, v44, v45, v46, v47, v48, v49, v50, v51, v52, v53, v54, v55, v56, v57, v58, v59, v60, v61, v62, v63, v64, v65, v66, v67, v68, v69, v70, v71, v72, v73, v74, v75, v76, v77, v78, v79, v80, v81, v82, v83, v84, v85, v86, v87, v88, v89, v90, v91, v92, v93, v94, v95, v96, v97, v98, v99, v100, v101, v102, v103, v104, v105, v106, v107, v108, v109, v110, v111, v112, v113, v114, v115, v116, v117, v118, v119, v120, v121, v122, v123, v124, v125, v126, v127, v128, v129, v130, v131, v132, v133, v134, v135, v136, v137, v138, v139, v140, v141, v142, v143, v144, v145, v146, v147, v148, v149, v150, v151, v152, v153, v154, v155, v156, v157, v158, v159, v160, v161, v162, v163, v164, v165, v166, v167, v168, v169, v170, v171, v172, v173, v174, v175, v176, v177, v178, v179, v180, v181, v182, v183, v184, v185, v186, v187, v188, v189, v190, v191, v192, v193, v194, v195, v196, v197, v198, v199, v200, v201, v202, v203, v204, v205, v206, v207, v208, v209, v210, v211, v212, v213, v214, v215, v216, v217, v218, v219, v220, v221, v222, v223, v224, v225, v226, v227, v228, v229, v230, v231, v232, v233, v234, v235, v236, v237, v238, v239, v240, v241, v242, v243, v244, v245, v246, v247, v248, v249, v250, v251, v252, v253, v254, v255, v256, v257, v258, v259, v260, v261, v262, v263, v264, v265, v266, v267, v268, v269, v270, v271, v272, v273, v274, v275, v276, v277, v278, v279, v280, v281, v282, v283, v284, v285, v286, v287, v288, v289, v290, v291, v292, v293, v294, v295, v296, v297, v298, v299, v300, v301, v302, v303, v304, v305, v306, v307, v308, v309, v310, v311, v312, v313, v314, v315, v316, v317, v318, v319, v320, v321, v322, v323, v324, v325, v326, v327, v328, v329, v330, v331, v332, v333, v334, v335, v336, v337, v338, v339, v340, v341, v342, v343, v344, v345, v346, v347, v348, v349, v350, v351, v352, v353, v354, v355, v356, v357, v358, v359, v360, v361, v362, v363, v364, v365, v366, v367, v368, v369, v370], []⟩ wr := by
  have hl := hd.1
  have hix := index28 cd hd.2.1
  simp only [Nat.zero_add] at hix
  have HC : Hid _ := hd.2.2.1
  have HZ : Hid _ := hd.2.2.2
  have HD : Hid _ := hD
  have H0 : Hid _ := h0
  have H2 : Hid _ := h2
  have HT : Hid _ := hT
  have HS : Hid _ := hS
  have MT : Hid _ := ht
  have MM : Hid _ := hm
  have MS : Hid _ := hs
  have MB : Hid _ := hb
  have MZ : Hid _ := hzz
  have HL : Hid _ := hl
  clear ht hm hs hb hzz hT hS h0 h2 hd hD hl
  refine wp_drop (D := (dropS 28 (Try.f5.body.getD .skip))) rfl (fun R hR => ?_)
  have HR : Hid _ := hR
  clear hR
  conv => arg 2; whnf
  go_wp2_with fail
  have hR := HR.out
  subst hR
  clear HR
  refine wp_drop (D := (dropS 29 (Try.f5.body.getD .skip))) rfl (fun R hR => ?_)
  have HR : Hid _ := hR
  clear hR
  conv => arg 2; whnf
  go_wp2_with fail
  go_loop [29, 30] (fun a i => ∃ k : Nat, k ≤ nd ∧ i = .int .i64 k ∧ a = .int .i64 (add T B BH (ds.take k))) (fun _ i => nd - (intOf i).toNat)
  case atStart => exact ⟨0, Nat.zero_le _, rfl, rfl⟩
  case round =>
    obtain ⟨k, hk, rfl, rfl⟩ := hrel
    by_cases hlt : k < nd
    · have hltz : (k : Int) < (nd : Int) := by omega
      have hc := HC.out k hlt
      rw [Nat.zero_add] at hc
      have e0 := (MapZ.look MZ.out (HZ.out k hlt)).1
      have e1 := MapZ.look_ok MS.out (HZ.out k hlt)
      have e2 := (MapZ.look MB.out (HZ.out k hlt)).1
      have e3 := MapZ.look_ok MB.out (HZ.out k hlt)
      have e4 := (MapZ.look MM.out (HZ.out k hlt)).1
      have e5 := bounds_i64 (MapZ.look MM.out (HZ.out k hlt)).2
      have hdf : DF T S B Z SH BH (ds.getD k ByteArray.empty).data.toList := HD.out k hlt
      have hsu : Hid (add T B BH (ds.take (k + 1)) = add T B BH (ds.take k) + if nw T B BH (ds.getD k ByteArray.empty) then 1 else 0) := add_succ (by rw [HL.out]; exact hlt)
      have hal : add T B BH (ds.take k) ≤ 65536 := by have := add_le (T := T) (B := B) (BH := BH) (ds.take k); have := List.length_take_le k ds; omega
      generalize ds.getD k ByteArray.empty = x at hc e0 e1 e2 e3 e4 e5 hdf hsu
      obtain ⟨d1, d2', d3, d4, d5, d6, d7⟩ := hdf
      have n1 : Hid _ := nw_true (T := T) (B := B) (BH := BH) (x := x)
      have n2' : Hid _ := nw_none (T := T) (B := B) (BH := BH) (x := x)
      have n3 : Hid _ := nw_some (T := T) (B := B) (BH := BH) (x := x)
      have d8 : Hid _ := d7
      have d7' : (0 < room T B x.data.toList) = (0 < T x.data.toList - B x.data.toList) := by unfold room; exact propext ⟨fun h => by omega, fun h => by omega⟩
      rw [d7] at e1
      simp only [d7'] at e1
      clear d7 d7' d8
      by_cases hcr : T x.data.toList - B x.data.toList < Z x.data.toList
      · rw [d5 hcr] at e1
        clear d5 d6
        generalize T x.data.toList = tt at *
        generalize B x.data.toList = bv at *
        generalize Z x.data.toList = zv at *
        by_cases hr : 0 < tt - bv
        · rw [decide_eq_true hr] at e1
          have hr' : bv < tt := by omega
          cases hbh : BH x.data.toList with
          | false =>
            have HA : Hid ((add T B BH (ds.take k) + 1 : Nat) = add T B BH (ds.take (k + 1))) := by refine (?_ : _ = _); rw [hsu.out, n3.out hr hbh]; rfl
            rw [hbh] at e1 e3
            clear hsu n1 n2' n3 hbh
            go_wp2_with fail
            go_round
            case rel => exact ⟨k + 1, by omega, by go_num, val_int' (by have := HA.out; omega)⟩
            case measure => simp [intOf]; omega
          | true =>
            have HA : Hid ((add T B BH (ds.take k) : Nat) = add T B BH (ds.take (k + 1))) := by refine (?_ : _ = _); rw [hsu.out, n1.out hbh]; rfl
            rw [hbh] at e1 e3
            clear hsu n1 n2' n3 hbh
            go_wp2_with fail
            go_round
            case rel => exact ⟨k + 1, by omega, by go_num, val_int' (by have := HA.out; omega)⟩
            case measure => simp [intOf]; omega
        · rw [decide_eq_false hr] at e1
          cases hbh : BH x.data.toList with
          | false =>
            have HA : Hid ((add T B BH (ds.take k) : Nat) = add T B BH (ds.take (k + 1))) := by refine (?_ : _ = _); rw [hsu.out, n2'.out (by omega)]; rfl
            rw [hbh] at e1 e3
            clear hsu n1 n2' n3 hbh
            go_wp2_with fail
            go_round
            case rel => exact ⟨k + 1, by omega, by go_num, val_int' (by have := HA.out; omega)⟩
            case measure => simp [intOf]; omega
          | true =>
            have HA : Hid ((add T B BH (ds.take k) : Nat) = add T B BH (ds.take (k + 1))) := by refine (?_ : _ = _); rw [hsu.out, n1.out hbh]; rfl
            rw [hbh] at e1 e3
            clear hsu n1 n2' n3 hbh
            go_wp2_with fail
            go_round
            case rel => exact ⟨k + 1, by omega, by go_num, val_int' (by have := HA.out; omega)⟩
            case measure => simp [intOf]; omega
      · rw [d6 (by omega)] at e1
        clear d5 d6
        generalize T x.data.toList = tt at *
        generalize B x.data.toList = bv at *
        generalize Z x.data.toList = zv at *
        have hr : 0 < tt - bv := by omega
        rw [decide_eq_true hr] at e1
        cases hbh : BH x.data.toList with
        | false =>
          have HA : Hid ((add T B BH (ds.take k) + 1 : Nat) = add T B BH (ds.take (k + 1))) := by refine (?_ : _ = _); rw [hsu.out, n3.out hr hbh]; rfl
          rw [hbh] at e1 e3
          clear hsu n1 n2' n3 hbh
          go_wp2_with fail
          go_round
          case rel => exact ⟨k + 1, by omega, by go_num, val_int' (by have := HA.out; omega)⟩
          case measure => simp [intOf]; omega
        | true =>
          have HA : Hid ((add T B BH (ds.take k) : Nat) = add T B BH (ds.take (k + 1))) := by refine (?_ : _ = _); rw [hsu.out, n1.out hbh]; rfl
          rw [hbh] at e1 e3
          clear hsu n1 n2' n3 hbh
          go_wp2_with fail
          go_round
          case rel => exact ⟨k + 1, by omega, by go_num, val_int' (by have := HA.out; omega)⟩
          case measure => simp [intOf]; omega
    · obtain rfl : k = nd := by omega
      have hld : ds.take k = ds := List.take_of_length_le (by rw [HL.out]; exact Nat.le_refl _)
      rw [hld]
      have had : add T B BH ds ≤ k := by have := add_le (T := T) (B := B) (BH := BH) ds; have := HL.out; omega
      clear hld
      go_wp2_with fail
      have hR := HR.out
      subst hR
      exact tail5 w wr b0 b2 n0 d0 G0 nt n2 d2 G2 ns bt bm bs bb bz kt km ks kb kz tz zb (add T B BH ds) zz s0 s2 T S B Z TH SH BH ZH hB H0.out m0 hnt H2.out m2 hns MT.out MM.out MS.out MB.out MZ.out (by omega) HT.out HS.out _ _ _ _ _ _ _ _ _ _ _ _ _ _ _ _ _ _ _ _ _ _ _ _ _ _ _ _ _ _ _ _ _ _ _ _ _ _ _ _ _ _ _ _ _ _ _ _ _ _ _ _ _ _ _ _ _ _ _ _ _ _ _ _ _ _ _ _ _ _ _ _ _ _ _ _ _ _ _ _ _ _ _ _ _ _ _ _ _ _ _ _ _ _ _ _ _ _ _ _ _ _ _ _ _ _ _ _ _ _ _ _ _ _ _ _ _ _ _ _ _ _ _ _ _ _ _ _ _ _ _ _ _ _ _ _ _ _ _ _ _ _ _ _ _ _ _ _ _ _ _ _ _ _ _ _ _ _ _ _ _ _ _ _ _ _ _ _ _ _ _ _ _ _ _ _ _ _ _ _ _ _ _ _ _ _ _ _ _ _ _ _ _ _ _ _ _ _ _ _ _ _ _ _ _ _ _ _ _ _ _ _ _ _ _ _ _ _ _ _ _ _ _ _ _ _ _ _ _ _ _ _ _ _ _ _ _ _ _ _ _ _ _ _ _ _ _ _ _ _ _ _ _ _ _ _ _ _ _ _ _ _ _ _ _ _ _ _ _ _ _ _ _ _ _ _ _ _ _ _ _ _ _ _ _ _ _ _ _ _ _ _ _ _ _ _ _ _ _ _ _ _ _ _ _ _ _ _ _ _ _ _ _ _ _ _ _ _ _ _ _ _ _ _ _ _ _ _ _ _ _ _ _ _ _ _ _ _ _ _ _ _ _ _ _ _ _ _ _ _ _ _ _ _ _ _ _ _ _ _ _
end Go.Proofs.Qxb6605259a
