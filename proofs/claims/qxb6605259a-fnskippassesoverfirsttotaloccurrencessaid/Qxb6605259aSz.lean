/-
  THE LAW OF SKIP: the row.
-/
import Derived.Test.Qxb6605259aSl
import Derived.ProofKit
import Derived.OpenShut
import Derived.ShutString
import Derived.SliceStrings
import Derived.ChangeOld
import Derived.Below
namespace Go.Proofs.Qxb6605259a
open Go.RowKit Go.Maps

theorem cell_lt {w : World} {a : Addr} {v : Value} (h : w.cell? a = some v) : a.block < w.heap.size := by
  by_cases q : a.block < w.heap.size
  · exact q
  · unfold World.cell? at h
    rw [Array.getElem?_eq_none (by omega)] at h
    cases h
theorem StrS.ofNil (w : World) : StrS w none 0 0 0 [] := ⟨rfl, .inl rfl, fun k h => absurd h (Nat.not_lt_zero k), fun k h => absurd h (Nat.not_lt_zero k)⟩
theorem StrS.ofRow {w : World} {x : Addr} {l c : Nat} {zs : List ByteArray} (hl : l ≤ c) (hz : zs.length = c) (hcell : ∀ i, i < zs.length → w.cell? (x.add i) = some (.string (zs.getD i ByteArray.empty))) (hw : ∀ s ∈ zs, s.size ≤ maxLen) :
    ∃ g o zs', StrS w (some x) l g o zs' ∧ (l = 0 ∨ g < w.heap.size) := by
  by_cases h0 : l = 0
  · subst h0
    exact ⟨0, 0, [], ⟨rfl, .inl rfl, fun k h => absurd h (Nat.not_lt_zero k), fun k h => absurd h (Nat.not_lt_zero k)⟩, .inl rfl⟩
  · obtain ⟨b, off, spot⟩ := x
    have hc := hcell 0 (by omega)
    have hspot : spot = none := by simpa [Addr.add] using World.cell?_spot hc
    subst hspot
    have hadd : ∀ k, (⟨b, off, none⟩ : Addr).add k = ⟨b, off + k, none⟩ := fun k => by unfold Addr.add; split <;> simp_all
    have hget : ∀ k, k < l → (zs.take l).getD k ByteArray.empty = zs.getD k ByteArray.empty := fun k hk => by
      rw [List.getD_eq_getElem?_getD, List.getD_eq_getElem?_getD, List.getElem?_take_of_lt hk]
    refine ⟨b, off, zs.take l, ⟨by rw [List.length_take]; omega, .inr rfl, fun k hk => ?_, fun k hk => ?_⟩, .inr (cell_lt hc)⟩
    · have := hcell k (by omega)
      rw [hadd] at this
      rw [hget k hk]; exact this
    · rw [hget k hk, List.getD_eq_getElem?_getD, List.getElem?_eq_getElem (show k < zs.length by omega)]
      exact hw _ (List.getElem_mem _)
theorem IntS.ofNil (w : World) : IntS w none 0 0 0 [] := ⟨rfl, .inl rfl, fun k h => absurd h (Nat.not_lt_zero k), fun k h => absurd h (Nat.not_lt_zero k)⟩
theorem IntS.ofRow {w : World} {x : Addr} {l c : Nat} {zs : List Int} (hl : l ≤ c) (hz : zs.length = c) (hcell : ∀ i, i < zs.length → w.cell? (x.add i) = some (.int .i64 (zs.getD i 0))) (hw : ∀ s ∈ zs, (Lit.int .i64 s).wf = true) :
    ∃ g o zs', IntS w (some x) l g o zs' ∧ (l = 0 ∨ g < w.heap.size) := by
  by_cases h0 : l = 0
  · subst h0
    exact ⟨0, 0, [], ⟨rfl, .inl rfl, fun k h => absurd h (Nat.not_lt_zero k), fun k h => absurd h (Nat.not_lt_zero k)⟩, .inl rfl⟩
  · obtain ⟨b, off, spot⟩ := x
    have hc := hcell 0 (by omega)
    have hspot : spot = none := by simpa [Addr.add] using World.cell?_spot hc
    subst hspot
    have hadd : ∀ k, (⟨b, off, none⟩ : Addr).add k = ⟨b, off + k, none⟩ := fun k => by unfold Addr.add; split <;> simp_all
    have hget : ∀ k, k < l → (zs.take l).getD k 0 = zs.getD k 0 := fun k hk => by
      rw [List.getD_eq_getElem?_getD, List.getD_eq_getElem?_getD, List.getElem?_take_of_lt hk]
    refine ⟨b, off, zs.take l, ⟨by rw [List.length_take]; omega, .inr rfl, fun k hk => ?_, fun k hk => ?_⟩, .inr (cell_lt hc)⟩
    · have := hcell k (by omega)
      rw [hadd] at this
      rw [hget k hk]; exact this
    · rw [hget k hk, List.getD_eq_getElem?_getD, List.getElem?_eq_getElem (show k < zs.length by omega)]
      exact hw _ (List.getElem_mem _)

set_option maxRecDepth 100000 in
set_option maxHeartbeats 2000000 in
/-- where a slice is longer than 65536 the law asks no more. -/
theorem law_long (a0 a1 a2 a3 a4 : Option Addr) (n0 n1 n2 n3 n4 c0 c1 c2 c3 c4 g0 g2 g4 o0 o2 o4 : Nat) (s0 s2 s4 : List ByteArray) (w : World)
    (m0 : n0 ≤ 9223372036854775807) (m1 : n1 ≤ 9223372036854775807) (m2 : n2 ≤ 9223372036854775807) (m3 : n3 ≤ 9223372036854775807) (m4 : n4 ≤ 9223372036854775807)
    (h0 : StrS w a0 n0 g0 o0 s0) (h2 : StrS w a2 n2 g2 o2 s2) (h4 : StrS w a4 n4 g4 o4 s4)
    (hb : (65536 : Int) < (n0 : Int) ∨ (65536 : Int) < (n1 : Int) ∨ (65536 : Int) < (n2 : Int) ∨ (65536 : Int) < (n3 : Int) ∨ (65536 : Int) < (n4 : Int)) :
    Calls Try.prog 5 #[.slice a0 n0 c0, .slice a1 n1 c1, .slice a2 n2 c2, .slice a3 n3 c3, .slice a4 n4 c4] w (Rq w) := by
  have H0 : Hid _ := h0
  have H2 : Hid _ := h2
  have H4 : Hid _ := h4
  have HB : Hid _ := hb
  clear h0 h2 h4 hb
  go_enter Try.func5, Try.ntmps5
  go_wp2_with fail
  refine (bytes_any _ _ _ _ _ _ _ _ _ _ _ _ _ _ _ _ _ _ _ _ _ _ _ _ _ (by omega) (by omega) (by omega) H0.out H2.out H4.out).mono ?_
  rintro e w1 ⟨⟨b, rfl⟩, hw⟩
  have hw' := hw.symm
  subst hw'
  clear hw
  cases b with
  | false =>
    go_wp2_with fail
    go_ret
    exact ⟨rfl, Below.refl _ _⟩
  | true =>
    by_cases q0 : (65536 : Int) < (n0 : Int)
    · go_wp2_with fail
      go_ret
      exact ⟨rfl, Below.refl _ _⟩
    · by_cases q1 : (65536 : Int) < (n1 : Int)
      · go_wp2_with fail
        go_ret
        exact ⟨rfl, Below.refl _ _⟩
      · by_cases q2 : (65536 : Int) < (n2 : Int)
        · go_wp2_with fail
          go_ret
          exact ⟨rfl, Below.refl _ _⟩
        · by_cases q3 : (65536 : Int) < (n3 : Int)
          · go_wp2_with fail
            go_ret
            exact ⟨rfl, Below.refl _ _⟩
          · have q4 : (65536 : Int) < (n4 : Int) := by have := HB.out; omega
            go_wp2_with fail
            go_ret
            exact ⟨rfl, Below.refl _ _⟩

theorem walk_all (a0 a1 a2 a3 a4 : Option Addr) (n0 n1 n2 n3 n4 c0 c1 c2 c3 c4 g0 g1 g2 g3 g4 o0 o1 o2 o3 o4 : Nat) (s0 : List ByteArray) (z1 : List Int) (s2 : List ByteArray) (z3 : List Int) (s4 : List ByteArray) (w : World)
    (m0 : n0 ≤ maxLen) (m1 : n1 ≤ maxLen) (m2 : n2 ≤ maxLen) (m3 : n3 ≤ maxLen) (m4 : n4 ≤ maxLen)
    (h0 : StrS w a0 n0 g0 o0 s0) (h1 : IntS w a1 n1 g1 o1 z1) (h2 : StrS w a2 n2 g2 o2 s2) (h3 : IntS w a3 n3 g3 o3 z3) (h4 : StrS w a4 n4 g4 o4 s4)
    (k0 : n0 = 0 ∨ g0 < w.heap.size) (k1 : n1 = 0 ∨ g1 < w.heap.size) (k2 : n2 = 0 ∨ g2 < w.heap.size) (k3 : n3 = 0 ∨ g3 < w.heap.size) (k4 : n4 = 0 ∨ g4 < w.heap.size) :
    Calls Try.prog 5 #[.slice a0 n0 c0, .slice a1 n1 c1, .slice a2 n2 c2, .slice a3 n3 c3, .slice a4 n4 c4] w (Rq w) := by
  unfold maxLen at m0 m1 m2 m3 m4
  by_cases hb : (65536 : Int) < (n0 : Int) ∨ (65536 : Int) < (n1 : Int) ∨ (65536 : Int) < (n2 : Int) ∨ (65536 : Int) < (n3 : Int) ∨ (65536 : Int) < (n4 : Int)
  · exact law_long a0 a1 a2 a3 a4 n0 n1 n2 n3 n4 c0 c1 c2 c3 c4 g0 g2 g4 o0 o2 o4 s0 s2 s4 w (by omega) (by omega) (by omega) (by omega) (by omega) h0 h2 h4 hb
  · exact law_walk a0 a1 a2 a3 a4 n0 n1 n2 n3 n4 c0 c1 c2 c3 c4 g0 g1 g2 g3 g4 o0 o1 o2 o3 o4 s0 z1 s2 z3 s4 w (by omega) (by omega) (by omega) (by omega) (by omega) h0 h1 h2 h3 h4 k0 k1 k2 k3 k4
end Go.Proofs.Qxb6605259a

namespace Go.Proofs.Qxb6605259a.fnSkipPassesOverFirstTotalOccurrences
open Go.ChangeShapes Go.WideShapes Go.ChangeAt Go.RowKit
open Go.ChangeMaps (open_string shut_string)

theorem own : ownKnob Try.prog.godebug = none := by kernel_rfl
theorem laidOut : laidOutB Try.prog = true := by kernel_rfl
theorem cells9 : Try.prog.cellsOf 9 = 1 := by kernel_rfl
theorem cells3 : Try.prog.cellsOf 3 = 1 := by kernel_rfl

set_option maxRecDepth 100000 in
theorem lifted (os : Os) (started : os.Started) (H : Type) (enc : TypeId × Value → H) :
    ReturnsInHanded {} Try.checked os 5 .any (Rows.fnSkipPassesOverFirstTotalOccurrencesSpec.pre6 enc Try.prog Try.f5 Rows.fnSkipPassesOverFirstTotalOccurrencesRow.domain false) (Rows.fnSkipPassesOverFirstTotalOccurrencesSpec.post enc Try.prog Try.f5 false true false false) := by
  refine returnsInHanded_of_change (C := Try.checked) own started (by kernel_rfl) Try.func5
    (ChangeSpec.witness6 (enc := enc) (C := Try.checked) false ⟨#[], #[.slice none 0 0, .slice none 0 0, .slice none 0 0, .slice none 0 0, .slice none 0 0], []⟩ 8 (by kernel_rfl) (by kernel_rfl) (by kernel_rfl) (by kernel_rfl)) ?_
  intro W base args ds gs before hval0 hW hcnd _
  have hval : ∀ (j : Nat) t v, Try.f5.params[j]? = some t → args[j]? = some v → Value.okWide Try.prog W .any base t v := hval0
  have hW' := hW
  obtain ⟨p, q, hA0, hV, rfl, hfz, hnd⟩ := hW
  have hA : DataW.TrodAll enc Try.prog W 0 (fun _ => true) true Try.f5.params.toList args.toList ds p := hA0
  rw [Try.params5] at hA hval
  obtain ⟨v0, vs0, d0, ds0, p0, q0, hargs, rfl, rfl, h0, r0⟩ := trodAll_cons hA
  obtain ⟨v1, vs1, d1, ds1, p1, q1, rfl, rfl, rfl, h1, r1⟩ := trodAll_cons r0
  obtain ⟨v2, vs2, d2, ds2, p2, q2, rfl, rfl, rfl, h2, r2⟩ := trodAll_cons r1
  obtain ⟨v3, vs3, d3, ds3, p3, q3, rfl, rfl, rfl, h3, r3⟩ := trodAll_cons r2
  obtain ⟨v4, vs4, d4, ds4, p4, q4, rfl, rfl, rfl, h4, r4⟩ := trodAll_cons r3
  obtain ⟨rfl, rfl, rfl⟩ := trodAll_nil r4
  obtain rfl : args = #[v0, v1, v2, v3, v4] := by cases args; simp_all
  obtain ⟨rfl, rfl⟩ := trodVars_none hV
  obtain ⟨a0, len0, cap0, rfl⟩ := okWide_slice Try.underlying28 (hval 0 28 v0 rfl rfl)
  have k0 := h0
  have lt0 : ∀ x ∈ p0, x.block < W.heap.size := by obtain ⟨m, hm⟩ := k0; exact DataW.trod_lt m _ _ _ hm
  obtain ⟨g0, o0, z0, w0, e0, u0⟩ : ∃ g o zs, StrS W a0 len0 g o zs ∧ (len0 = 0 ∨ g < W.heap.size) ∧ len0 ≤ maxLen := by
    obtain ⟨fuel, hf⟩ := h0
    rcases open_strings Try.underlying28 Try.underlying9 cells9 hf with ⟨hcs, _⟩ | ⟨x, l, c, zs, hcs, _, hl, hm, hz, _, hcell, hwz⟩
    · simp [Value.cells] at hcs
      obtain ⟨rfl, rfl, rfl⟩ := hcs
      exact ⟨0, 0, [], StrS.ofNil _, .inl rfl, Nat.zero_le _⟩
    · simp [Value.cells] at hcs
      obtain ⟨rfl, rfl, rfl⟩ := hcs
      obtain ⟨g, o, zs', q1, q2⟩ := StrS.ofRow hl (by simpa using hz) hcell hwz
      exact ⟨g, o, zs', q1, q2, Nat.le_trans hl hm⟩
  obtain ⟨a1, len1, cap1, rfl⟩ := okWide_slice Try.underlying29 (hval 1 29 v1 rfl rfl)
  have k1 := h1
  have lt1 : ∀ x ∈ p1, x.block < W.heap.size := by obtain ⟨m, hm⟩ := k1; exact DataW.trod_lt m _ _ _ hm
  obtain ⟨g1, o1, z1, w1, e1, u1⟩ : ∃ g o zs, IntS W a1 len1 g o zs ∧ (len1 = 0 ∨ g < W.heap.size) ∧ len1 ≤ maxLen := by
    obtain ⟨fuel, hf⟩ := h1
    rcases open_ints Try.underlying29 Try.underlying3 cells3 hf with ⟨hcs, _⟩ | ⟨x, l, c, zs, hcs, _, hl, hm, hz, _, hcell, hwz⟩
    · simp [Value.cells] at hcs
      obtain ⟨rfl, rfl, rfl⟩ := hcs
      exact ⟨0, 0, [], IntS.ofNil _, .inl rfl, Nat.zero_le _⟩
    · simp [Value.cells] at hcs
      obtain ⟨rfl, rfl, rfl⟩ := hcs
      obtain ⟨g, o, zs', q1, q2⟩ := IntS.ofRow hl (by simpa using hz) hcell hwz
      exact ⟨g, o, zs', q1, q2, Nat.le_trans hl hm⟩
  obtain ⟨a2, len2, cap2, rfl⟩ := okWide_slice Try.underlying28 (hval 2 28 v2 rfl rfl)
  have k2 := h2
  have lt2 : ∀ x ∈ p2, x.block < W.heap.size := by obtain ⟨m, hm⟩ := k2; exact DataW.trod_lt m _ _ _ hm
  obtain ⟨g2, o2, z2, w2, e2, u2⟩ : ∃ g o zs, StrS W a2 len2 g o zs ∧ (len2 = 0 ∨ g < W.heap.size) ∧ len2 ≤ maxLen := by
    obtain ⟨fuel, hf⟩ := h2
    rcases open_strings Try.underlying28 Try.underlying9 cells9 hf with ⟨hcs, _⟩ | ⟨x, l, c, zs, hcs, _, hl, hm, hz, _, hcell, hwz⟩
    · simp [Value.cells] at hcs
      obtain ⟨rfl, rfl, rfl⟩ := hcs
      exact ⟨0, 0, [], StrS.ofNil _, .inl rfl, Nat.zero_le _⟩
    · simp [Value.cells] at hcs
      obtain ⟨rfl, rfl, rfl⟩ := hcs
      obtain ⟨g, o, zs', q1, q2⟩ := StrS.ofRow hl (by simpa using hz) hcell hwz
      exact ⟨g, o, zs', q1, q2, Nat.le_trans hl hm⟩
  obtain ⟨a3, len3, cap3, rfl⟩ := okWide_slice Try.underlying29 (hval 3 29 v3 rfl rfl)
  have k3 := h3
  have lt3 : ∀ x ∈ p3, x.block < W.heap.size := by obtain ⟨m, hm⟩ := k3; exact DataW.trod_lt m _ _ _ hm
  obtain ⟨g3, o3, z3, w3, e3, u3⟩ : ∃ g o zs, IntS W a3 len3 g o zs ∧ (len3 = 0 ∨ g < W.heap.size) ∧ len3 ≤ maxLen := by
    obtain ⟨fuel, hf⟩ := h3
    rcases open_ints Try.underlying29 Try.underlying3 cells3 hf with ⟨hcs, _⟩ | ⟨x, l, c, zs, hcs, _, hl, hm, hz, _, hcell, hwz⟩
    · simp [Value.cells] at hcs
      obtain ⟨rfl, rfl, rfl⟩ := hcs
      exact ⟨0, 0, [], IntS.ofNil _, .inl rfl, Nat.zero_le _⟩
    · simp [Value.cells] at hcs
      obtain ⟨rfl, rfl, rfl⟩ := hcs
      obtain ⟨g, o, zs', q1, q2⟩ := IntS.ofRow hl (by simpa using hz) hcell hwz
      exact ⟨g, o, zs', q1, q2, Nat.le_trans hl hm⟩
  obtain ⟨a4, len4, cap4, rfl⟩ := okWide_slice Try.underlying28 (hval 4 28 v4 rfl rfl)
  have k4 := h4
  have lt4 : ∀ x ∈ p4, x.block < W.heap.size := by obtain ⟨m, hm⟩ := k4; exact DataW.trod_lt m _ _ _ hm
  obtain ⟨g4, o4, z4, w4, e4, u4⟩ : ∃ g o zs, StrS W a4 len4 g o zs ∧ (len4 = 0 ∨ g < W.heap.size) ∧ len4 ≤ maxLen := by
    obtain ⟨fuel, hf⟩ := h4
    rcases open_strings Try.underlying28 Try.underlying9 cells9 hf with ⟨hcs, _⟩ | ⟨x, l, c, zs, hcs, _, hl, hm, hz, _, hcell, hwz⟩
    · simp [Value.cells] at hcs
      obtain ⟨rfl, rfl, rfl⟩ := hcs
      exact ⟨0, 0, [], StrS.ofNil _, .inl rfl, Nat.zero_le _⟩
    · simp [Value.cells] at hcs
      obtain ⟨rfl, rfl, rfl⟩ := hcs
      obtain ⟨g, o, zs', q1, q2⟩ := StrS.ofRow hl (by simpa using hz) hcell hwz
      exact ⟨g, o, zs', q1, q2, Nat.le_trans hl hm⟩
  clear hA0 hval0
  refine (walk_all a0 a1 a2 a3 a4 len0 len1 len2 len3 len4 cap0 cap1 cap2 cap3 cap4 g0 g1 g2 g3 g4 o0 o1 o2 o3 o4 z0 z1 z2 z3 z4 W u0 u1 u2 u3 u4 w0 w1 w2 w3 w4 e0 e1 e2 e3 e4).mono fun e W' ⟨he, bel⟩ => ?_
  subst he
  exact ⟨_, rfl, _, _, _, [], _, [], hW', trodAll_mk1 (shut_bool Try.underlying4 _), (trodAll_cons_mk (Below.trod laidOut (by kernel_rfl) (of_decide_eq_true (by kernel_rfl)) k0 bel lt0) (trodAll_cons_mk (Below.trod laidOut (by kernel_rfl) (of_decide_eq_true (by kernel_rfl)) k1 bel lt1) (trodAll_cons_mk (Below.trod laidOut (by kernel_rfl) (of_decide_eq_true (by kernel_rfl)) k2 bel lt2) (trodAll_cons_mk (Below.trod laidOut (by kernel_rfl) (of_decide_eq_true (by kernel_rfl)) k3 bel lt3) (trodAll_cons_mk (Below.trod laidOut (by kernel_rfl) (of_decide_eq_true (by kernel_rfl)) k4 bel lt4) trodAll_mk0))))), rfl, bel.frame _, fun h => by cases h⟩

theorem over : Rows.fnSkipPassesOverFirstTotalOccurrencesRow.holds Try.pinned (OpenSpec.ofChange Rows.fnSkipPassesOverFirstTotalOccurrencesSpec) :=
  OpenClaim.holds_of_wide 5 Try.f5 rfl rfl rfl rfl rfl rfl rfl ⟨rfl, rfl, rfl, rfl, rfl⟩ rfl rfl rfl rfl rfl (by kernel_rfl) Try.func5 (by kernel_rfl)
    (of_decide_eq_true (by kernel_rfl)) (by unfold Func.isWrapper; first | (rw [if_pos (by decide +kernel)]; kernel_rfl) | (rw [if_neg (by decide +kernel)]; exact ⟨rfl, rfl⟩))
    (fun os started H enc _ => lifted os started H enc)

/-- THE STATEMENT. -/
theorem proved : Rows.FnSkipPassesOverFirstTotalOccurrencesSaid := over
end Go.Proofs.Qxb6605259a.fnSkipPassesOverFirstTotalOccurrences
