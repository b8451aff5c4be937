/-
  THE WALK of the law of skip.
-/
import Derived.Test.Qxb6605259aS1
namespace Go.Proofs.Qxb6605259a
open Go.RowKit Go.Maps

set_option maxRecDepth 100000 in
set_option maxHeartbeats 2000000 in
theorem law_walk (a0 a1 a2 a3 a4 : Option Addr) (n0 n1 n2 n3 n4 c0 c1 c2 c3 c4 g0 g1 g2 g3 g4 o0 o1 o2 o3 o4 : Nat) (s0 : List ByteArray) (z1 : List Int) (s2 : List ByteArray) (z3 : List Int) (s4 : List ByteArray) (w : World)
    (m0 : n0 ≤ 65536) (m1 : n1 ≤ 65536) (m2 : n2 ≤ 65536) (m3 : n3 ≤ 65536) (m4 : n4 ≤ 65536)
    (h0 : StrS w a0 n0 g0 o0 s0) (h1 : IntS w a1 n1 g1 o1 z1) (h2 : StrS w a2 n2 g2 o2 s2) (h3 : IntS w a3 n3 g3 o3 z3) (h4 : StrS w a4 n4 g4 o4 s4)
    (k0 : n0 = 0 ∨ g0 < w.heap.size) (k1 : n1 = 0 ∨ g1 < w.heap.size) (k2 : n2 = 0 ∨ g2 < w.heap.size) (k3 : n3 = 0 ∨ g3 < w.heap.size) (k4 : n4 = 0 ∨ g4 < w.heap.size) :
    Calls Try.prog 5 #[.slice a0 n0 c0, .slice a1 n1 c1, .slice a2 n2 c2, .slice a3 n3 c3, .slice a4 n4 c4] w (Rq w) := by
  have H0 : Hid _ := h0
  have H1 : Hid _ := h1
  have H2 : Hid _ := h2
  have H3 : Hid _ := h3
  have H4 : Hid _ := h4
  clear h0 h1 h2 h3 h4
  have hmm := @run_makeMap Try.prog
  go_enter Try.func5, Try.ntmps5
  go_wp2_with fail
  refine (bytes_any _ _ _ _ _ _ _ _ _ _ _ _ _ _ _ _ _ _ _ _ _ _ _ _ _ (by omega) (by omega) (by omega) H0.out H2.out H4.out).mono ?_
  rintro e w1 ⟨⟨b, rfl⟩, hw⟩
  have hw' := hw.symm
  subst hw'
  clear hw
  cases b with
  | false =>
    go_wp2_with fail
    go_ret
    exact ⟨rfl, Below.refl _ _⟩
  | true =>
    go_wp2_with fail
    refine (size_any _ _ _ _ _ _ _ (by omega) _ H0.out).mono ?_
    rintro e w1 ⟨⟨r1, rfl⟩, hw⟩
    have hw' := hw.symm
    subst hw'
    clear hw
    go_wp2_with fail
    refine (size_any _ _ _ _ _ _ _ (by omega) _ H2.out).mono ?_
    rintro e w1 ⟨⟨r2, rfl⟩, hw⟩
    have hw' := hw.symm
    subst hw'
    clear hw
    go_wp2_with fail
    refine (size_any _ _ _ _ _ _ _ (by omega) _ H4.out).mono ?_
    rintro e w1 ⟨⟨r3, rfl⟩, hw⟩
    have hw' := hw.symm
    subst hw'
    clear hw
    by_cases hr : 1048576 < r3
    · go_wp2_with fail
      go_ret
      exact ⟨rfl, Below.refl _ _⟩
    · go_wp2_with fail
      refine (clone_strs _ _ _ _ _ _ m0 _ k0 H0.out).mono ?_
      rintro e w1 ⟨⟨b0, d0, rfl, t0, y0⟩, hB1⟩
      have hz1 := hB1.size
      have T0 : Hid _ := t0
      clear t0
      go_wp2_with fail
      refine (clone_ints _ _ _ _ _ _ m1 _ (by omega) (IntS.below H1.out hB1 k1)).mono ?_
      rintro e w2 ⟨⟨b1, d1, rfl, t1, y1⟩, hB2⟩
      have hz2 := hB2.size
      have T1 : Hid _ := t1
      clear t1
      have hB12 := hB1.trans (hB2.mono hz1)
      go_wp2_with fail
      refine (clone_strs _ _ _ _ _ _ m2 _ (by omega) (StrS.below H2.out hB12 k2)).mono ?_
      rintro e w3 ⟨⟨b2, d2, rfl, t2, y2⟩, hB3⟩
      have hz3 := hB3.size
      have T2 : Hid _ := t2
      clear t2
      have hB13 := hB12.trans (hB3.mono (by omega))
      go_wp2_with fail
      refine (clone_ints _ _ _ _ _ _ m3 _ (by omega) (IntS.below H3.out hB13 k3)).mono ?_
      rintro e w4 ⟨⟨b3, d3, rfl, t3, y3⟩, hB4⟩
      have hz4 := hB4.size
      have T3 : Hid _ := t3
      clear t3
      have hB14 := hB13.trans (hB4.mono (by omega))
      go_wp2_with fail
      refine (clone_strs _ _ _ _ _ _ m4 _ (by omega) (StrS.below H4.out hB14 k4)).mono ?_
      rintro e w5 ⟨⟨b4, d4, rfl, t4, y4⟩, hB5⟩
      have hz5 := hB5.size
      have HE : Hid (Env w w5 w5.heap.size b0 b1 b2 b3 b4 n0 n1 n2 n3 n4 w.heap.size w1.heap.size w2.heap.size w3.heap.size w4.heap.size s0 z1 s2 z3 s4) :=
        ⟨⟨StrS.below (StrS.below (StrS.below (StrS.below T0.out hB2 (by omega)) hB3 (by omega)) hB4 (by omega)) hB5 (by omega), by omega⟩,
         ⟨IntS.below (IntS.below (IntS.below T1.out hB3 (by omega)) hB4 (by omega)) hB5 (by omega), by omega⟩,
         ⟨StrS.below (StrS.below T2.out hB4 (by omega)) hB5 (by omega), by omega⟩,
         ⟨IntS.below T3.out hB5 (by omega), by omega⟩, ⟨t4, by omega⟩, hB14.trans (hB5.mono (by omega)), Nat.le_refl _, by omega⟩
      obtain ⟨G0, G1, G2, G3, G4, HE⟩ : ∃ G0 G1 G2 G3 G4, Hid (Env w w5 w5.heap.size b0 b1 b2 b3 b4 n0 n1 n2 n3 n4 G0 G1 G2 G3 G4 s0 z1 s2 z3 s4) := ⟨_, _, _, _, _, HE⟩
      have hix0 := index28 d0 HE.out.1.1.2.1
      have hix1 := index29 d1 HE.out.2.1.1.2.1
      have hix2 := index28 d2 HE.out.2.2.1.1.2.1
      have hix3 := index29 d3 HE.out.2.2.2.1.1.2.1
      have hix4 := index28 d4 HE.out.2.2.2.2.1.1.2.1
      clear H0 H1 H2 H3 H4 T0 T1 T2 T3 t4 y0 y1 y2 y3 y4 hB1 hB2 hB3 hB4 hB5 hB12 hB13 hB14 hz1 hz2 hz3 hz4 hz5 k0 k1 k2 k3 k4
      have HL : Hid (L1 w ((w5.alloc (.map #[] 0)).alloc (.map #[] 0)) w5.heap.size b0 b1 b2 b3 b4 n0 n1 n2 n3 n4 G0 G1 G2 G3 G4 s0 z1 s2 z3 s4 w5.heap.size (w5.heap.size + 1) 0) := by
        refine ⟨(Env.grown HE.out (World.grownBy_alloc w5 (.map #[] 0) none) (fun k e => by cases e)).grown (World.grownBy_alloc _ (.map #[] 0) none) (fun k e => by cases e), (MapZ.made w5).alloc _, ?_⟩
        have := MapZ.made (w5.alloc (.map #[] 0))
        have e : (w5.alloc (.map #[] 0)).heap.size = w5.heap.size + 1 := by simp
        rw [e] at this
        exact this
      clear hix0 hix1 hix2 hix3 hix4 HE
      by_cases q1 : (n1 : Int) < (n0 : Int) <;> by_cases q2 : (n3 : Int) < (n2 : Int)
      · go_wp2_with fail
        exact loop1t w _ w5.heap.size b0 b1 b2 b3 b4 n0 n1 n2 n3 n4 G0 G1 G2 G3 G4 s0 z1 s2 z3 s4 w5.heap.size (w5.heap.size + 1) d0 d1 d2 d3 d4 n1 n3 m0 m2 m4 (by omega) (by omega) (by omega) (by omega) (Nat.le_refl _) (by omega) (by omega) HL.out _ (by assumption) _ _ _ _ _ _ _ _ _ _ _ _ _ _ _ _ _ _ _ _ _ _ _ _ _ _ _ _ _ _ _ _ _ _ _ _ _ _ _ _ _ _ _ _ _ _ _ _ _ _ _ _ _ _ _ _ _ _ _ _ _ _ _ _ _ _ _ _ _ _ _ _ _ _ _ _ _ _ _ _ _ _ _ _ _ _ _ _ _ _ _ _ _ _ _ _ _ _ _ _ _ _ _ _ _ _ _ _ _ _ _ _ _ _ _ _ _ _ _ _ _ _ _ _ _ _ _ _ _ _ _ _ _ _ _ _ _ _ _ _ _ _ _ _ _ _ _ _ _ _ _ _ _ _ _ _ _ _ _ _ _ _ _ _ _ _ _ _ _ _ _ _ _ _ _ _ _ _ _ _ _ _ _ _ _ _ _ _ _ _ _ _ _ _ _ _ _ _ _ _ _ _ _ _ _ _ _ _ _ _ _ _ _ _ _ _ _ _ _ _ _ _ _ _ _ _ _ _ _ _ _ _ _ _ _ _ _ _ _ _ _ _ _ _ _ _ _ _ _ _ _ _ _ _ _ _ _ _ _ _ _ _ _ _ _ _ _ _ _ _ _ _ _ _ _ _ _ _ _ _ _ _ _ _ _ _ _ _ _ _ _ _ _ _ _ _ _ _ _ _ _ _ _ _ _ _ _ _ _ _ _ _ _ _ _ _ _ _ _ _ _ _ _ _ _ _ _ _ _ _ _ _ _ _ _ _ _ _ _ _ _ _ _ _ _ _ _ _ _ _ _ _ _ _ _ _ _ _ _ _ _
      · go_wp2_with fail
        exact loop1t w _ w5.heap.size b0 b1 b2 b3 b4 n0 n1 n2 n3 n4 G0 G1 G2 G3 G4 s0 z1 s2 z3 s4 w5.heap.size (w5.heap.size + 1) d0 d1 d2 d3 d4 n1 n2 m0 m2 m4 (by omega) (by omega) (by omega) (by omega) (Nat.le_refl _) (by omega) (by omega) HL.out _ (by assumption) _ _ _ _ _ _ _ _ _ _ _ _ _ _ _ _ _ _ _ _ _ _ _ _ _ _ _ _ _ _ _ _ _ _ _ _ _ _ _ _ _ _ _ _ _ _ _ _ _ _ _ _ _ _ _ _ _ _ _ _ _ _ _ _ _ _ _ _ _ _ _ _ _ _ _ _ _ _ _ _ _ _ _ _ _ _ _ _ _ _ _ _ _ _ _ _ _ _ _ _ _ _ _ _ _ _ _ _ _ _ _ _ _ _ _ _ _ _ _ _ _ _ _ _ _ _ _ _ _ _ _ _ _ _ _ _ _ _ _ _ _ _ _ _ _ _ _ _ _ _ _ _ _ _ _ _ _ _ _ _ _ _ _ _ _ _ _ _ _ _ _ _ _ _ _ _ _ _ _ _ _ _ _ _ _ _ _ _ _ _ _ _ _ _ _ _ _ _ _ _ _ _ _ _ _ _ _ _ _ _ _ _ _ _ _ _ _ _ _ _ _ _ _ _ _ _ _ _ _ _ _ _ _ _ _ _ _ _ _ _ _ _ _ _ _ _ _ _ _ _ _ _ _ _ _ _ _ _ _ _ _ _ _ _ _ _ _ _ _ _ _ _ _ _ _ _ _ _ _ _ _ _ _ _ _ _ _ _ _ _ _ _ _ _ _ _ _ _ _ _ _ _ _ _ _ _ _ _ _ _ _ _ _ _ _ _ _ _ _ _ _ _ _ _ _ _ _ _ _ _ _ _ _ _ _ _ _ _ _ _ _ _ _ _ _ _ _ _ _ _ _ _ _ _ _ _ _ _ _ _ _
      · go_wp2_with fail
        exact loop1t w _ w5.heap.size b0 b1 b2 b3 b4 n0 n1 n2 n3 n4 G0 G1 G2 G3 G4 s0 z1 s2 z3 s4 w5.heap.size (w5.heap.size + 1) d0 d1 d2 d3 d4 n0 n3 m0 m2 m4 (by omega) (by omega) (by omega) (by omega) (Nat.le_refl _) (by omega) (by omega) HL.out _ (by assumption) _ _ _ _ _ _ _ _ _ _ _ _ _ _ _ _ _ _ _ _ _ _ _ _ _ _ _ _ _ _ _ _ _ _ _ _ _ _ _ _ _ _ _ _ _ _ _ _ _ _ _ _ _ _ _ _ _ _ _ _ _ _ _ _ _ _ _ _ _ _ _ _ _ _ _ _ _ _ _ _ _ _ _ _ _ _ _ _ _ _ _ _ _ _ _ _ _ _ _ _ _ _ _ _ _ _ _ _ _ _ _ _ _ _ _ _ _ _ _ _ _ _ _ _ _ _ _ _ _ _ _ _ _ _ _ _ _ _ _ _ _ _ _ _ _ _ _ _ _ _ _ _ _ _ _ _ _ _ _ _ _ _ _ _ _ _ _ _ _ _ _ _ _ _ _ _ _ _ _ _ _ _ _ _ _ _ _ _ _ _ _ _ _ _ _ _ _ _ _ _ _ _ _ _ _ _ _ _ _ _ _ _ _ _ _ _ _ _ _ _ _ _ _ _ _ _ _ _ _ _ _ _ _ _ _ _ _ _ _ _ _ _ _ _ _ _ _ _ _ _ _ _ _ _ _ _ _ _ _ _ _ _ _ _ _ _ _ _ _ _ _ _ _ _ _ _ _ _ _ _ _ _ _ _ _ _ _ _ _ _ _ _ _ _ _ _ _ _ _ _ _ _ _ _ _ _ _ _ _ _ _ _ _ _ _ _ _ _ _ _ _ _ _ _ _ _ _ _ _ _ _ _ _ _ _ _ _ _ _ _ _ _ _ _ _ _ _ _ _ _ _ _ _ _ _ _ _ _ _ _ _
      · go_wp2_with fail
        exact loop1t w _ w5.heap.size b0 b1 b2 b3 b4 n0 n1 n2 n3 n4 G0 G1 G2 G3 G4 s0 z1 s2 z3 s4 w5.heap.size (w5.heap.size + 1) d0 d1 d2 d3 d4 n0 n2 m0 m2 m4 (by omega) (by omega) (by omega) (by omega) (Nat.le_refl _) (by omega) (by omega) HL.out _ (by assumption) _ _ _ _ _ _ _ _ _ _ _ _ _ _ _ _ _ _ _ _ _ _ _ _ _ _ _ _ _ _ _ _ _ _ _ _ _ _ _ _ _ _ _ _ _ _ _ _ _ _ _ _ _ _ _ _ _ _ _ _ _ _ _ _ _ _ _ _ _ _ _ _ _ _ _ _ _ _ _ _ _ _ _ _ _ _ _ _ _ _ _ _ _ _ _ _ _ _ _ _ _ _ _ _ _ _ _ _ _ _ _ _ _ _ _ _ _ _ _ _ _ _ _ _ _ _ _ _ _ _ _ _ _ _ _ _ _ _ _ _ _ _ _ _ _ _ _ _ _ _ _ _ _ _ _ _ _ _ _ _ _ _ _ _ _ _ _ _ _ _ _ _ _ _ _ _ _ _ _ _ _ _ _ _ _ _ _ _ _ _ _ _ _ _ _ _ _ _ _ _ _ _ _ _ _ _ _ _ _ _ _ _ _ _ _ _ _ _ _ _ _ _ _ _ _ _ _ _ _ _ _ _ _ _ _ _ _ _ _ _ _ _ _ _ _ _ _ _ _ _ _ _ _ _ _ _ _ _ _ _ _ _ _ _ _ _ _ _ _ _ _ _ _ _ _ _ _ _ _ _ _ _ _ _ _ _ _ _ _ _ _ _ _ _ _ _ _ _ _ _ _ _ _ _ _ _ _ _ _ _ _ _ _ _ _ _ _ _ _ _ _ _ _ _ _ _ _ _ _ _ _ _ _ _ _ _ _ _ _ _ _ _ _ _ _ _ _ _ _ _ _ _ _ _ _ _ _ _ _ _ _
end Go.Proofs.Qxb6605259a
