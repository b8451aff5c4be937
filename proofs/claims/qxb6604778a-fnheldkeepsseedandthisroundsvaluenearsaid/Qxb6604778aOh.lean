/-
  THE PROOF OF 'Rows.FnHeldKeepsSeedAndThisRoundsValueNearSaid': the frame is the seat's shell (the world behind the call told by 'Below'), the walk is ours.
-/
import Derived.Test.Qxb6604778aRows
import Derived.Test.Qxb6604778aHw
import Derived.WalkKit
import Derived.ProofKit
import Derived.OpenShut
import Derived.ShutString
namespace Go.Proofs.Qxb6604778a.fnHeldKeepsSeedAndThisRoundsValueNear
open Go.ChangeShapes Go.WideShapes Go.ChangeAt Go.RowKit
open Go.Sort (grow)
open Go.ChangeMaps (open_string shut_string)
set_option linter.unusedVariables false      -- a walk need not use every 'w<i>' (that an integer argument fits its kind)

theorem own : ownKnob Try.prog.godebug = none := by kernel_rfl

set_option maxHeartbeats 400000 in
theorem zzheld_none (ln bu r : Int) (L : Nat) (hL : L ≤ 62) (hr : pw L ≤ r) (w : World) :
    Calls Try.prog 12 #[.int .i64 ln, .int .i64 L, .int .i64 bu, .int .i64 r, .slice none 0 0] w fun e w' => e = .returned (.slice none 0 0) ∧ Below w.heap.size w w' := by
  go_enter Try.func12, Try.ntmps12
  go_wp2_with (first | (go_at_call 18; refine (to_nil _).mono ?_; rintro e w1 ⟨rfl, rfl⟩) | (go_at_call 17; refine (held_none _ _ _ _ hL hr _ _ _ _).mono ?_; rintro e w2 ⟨rfl, hb⟩))
  go_ret
  exact ⟨rfl, hb⟩

set_option maxHeartbeats 400000 in
theorem zzheld_any (ln bu r : Int) (L h caph : Nat) (U : Nat → Int) (hL : L ≤ 62) (hr0 : 0 ≤ r) (hr : r < pw L) (w : World) (hh : h < w.heap.size) (hU : ∀ i, i < (sorL r (L - 1)).length → okU L r bu ((sorL r (L - 1)).getD i 0) (U i)) (hrow : Row w h 6 (sorL r (L - 1)).length (rowU L r (L - 1) U (sorL r (L - 1)).length)) :
    Calls Try.prog 12 #[.int .i64 ln, .int .i64 L, .int .i64 bu, .int .i64 r, .slice (some ⟨h, 0, none⟩) (sorL r (L - 1)).length caph] w fun e w' =>
      (∃ (g cap : Nat) (A : List Int), e = .returned (.slice (some ⟨g, 0, none⟩) (heldOut A).length cap) ∧ Own1 w' w.heap.size g cap (heldOut A) ∧ Held (pw L - 1 - r) (max bu 0) A) ∧ Below w.heap.size w w' := by
  have hN : (sorL r (L - 1)).length ≤ 61 := by have := sorL_len_le r (L - 1); omega
  have HU : Hid _ := hU
  have HR : Hid _ := hrow
  clear hU hrow
  go_enter Try.func12, Try.ntmps12
  go_wp2_with fail
  refine (to_any _ _ _ _ hN _ hh HR.out).mono ?_
  rintro e w1 ⟨rfl, hrow1, hs1, hb1⟩
  have HR1 : Hid _ := hrow1
  clear hrow1
  go_wp2_with fail
  refine (held_any _ _ _ L _ _ U hL hr0 hr _ hs1 HU.out HR1.out).mono ?_
  rintro e w2 ⟨⟨g, cap, A, rfl, hown, hheld⟩, hb2⟩
  have HO : Hid (Own1 w2 w.heap.size g cap (heldOut A)) := ⟨hown.1, own_lower hown.2 hb1.size⟩
  have HH : Hid _ := hheld
  clear hown hheld
  go_wp2_with fail
  go_ret
  exact ⟨⟨g, cap, A, rfl, HO.out, HH.out⟩, hb1.trans (hb2.mono hb1.size)⟩

set_option maxHeartbeats 400000 in
theorem walk_none (a0 a2 r : Int) (L : Nat) (hL : L ≤ 62) (hr0 : 0 ≤ r) (hr : pw L ≤ r) (w : World) :
    Calls Try.prog 6 #[.int .i64 a0, .int .i64 L, .int .i64 a2, .int .i64 r] w fun e w' => e = .returned (.bool true) ∧ Below w.heap.size w w' := by
  have e1 : ∀ j, j ≤ 62 → wrap64 ((2 : Int) ^ j) = pw j := fun j h => wrap_pw h
  have hnil : ∀ (w : World) (a : Option Addr) (n c n' c' : Nat), (binOp .eql 34 (.slice a n c) (.slice none n' c')).run Try.prog w = .ok (.bool a.isNone) w := fun w a n c n' c' => Lib.run_eql_slice_nil w _ _ a n c n' c' Try.underlying34
  have hlz : (L : Int) ≤ 62 := by omega
  go_enter Try.func6, Try.ntmps6
  go_wp2_with (first | (go_at_call 10; refine (zzwalks_none _ _ _ _ hL hr _).mono ?_; rintro e w1 ⟨rfl, hb⟩) | (go_at_call 12; refine (zzheld_none _ _ _ _ hL hr _).mono ?_; rintro e w2 ⟨rfl, hb2⟩))
  go_ret
  exact ⟨rfl, hb.trans (hb2.mono hb.size)⟩

set_option maxRecDepth 100000 in
set_option maxHeartbeats 1000000 in
theorem walk_some (a0 bu r : Int) (L : Nat) (hL : L ≤ 62) (hr0 : 0 ≤ r) (hr : r < pw L) (hbu0 : -9223372036854775808 ≤ bu) (hbu1 : bu ≤ 9223372036854775807) (w : World) :
    Calls Try.prog 6 #[.int .i64 a0, .int .i64 L, .int .i64 bu, .int .i64 r] w fun e w' => e = .returned (.bool true) ∧ Below w.heap.size w w' := by
  have e1 : ∀ j, j ≤ 62 → wrap64 ((2 : Int) ^ j) = pw j := fun j h => wrap_pw h
  have hlz : (L : Int) ≤ 62 := by omega
  have p2 : pw L ≤ 4611686018427387904 := by rw [← pw_62]; exact pw_mono (by omega)
  go_enter Try.func6, Try.ntmps6
  go_wp2_with fail
  refine (zzwalks_any _ _ _ _ hL hr0 hr hbu0 hbu1 _).mono ?_
  rintro e w1 ⟨⟨g0, cap0, U, rfl, hU, hrow, hg0, hg1⟩, hb⟩
  have HU : Hid _ := hU
  have HR : Hid _ := hrow
  clear hU hrow
  go_wp2_with fail
  refine (zzheld_any _ _ _ L _ _ U hL hr0 hr _ hg1 HU.out HR.out).mono ?_
  rintro e w2 ⟨⟨g, cap, A, rfl, hown, hheld⟩, hb2⟩
  have hB2 : Below w.heap.size w w2 := hb.trans (hb2.mono hb.size)
  have hs := heldOut_strict A
  have hh := heldOut_held hheld
  obtain ⟨B, hBe⟩ : ∃ B, heldOut A = B := ⟨_, rfl⟩
  rw [hBe] at hown hs hh ⊢
  have hf := hown.facts
  have hlen : B.length ≤ 9223372036854775807 := by have := hf.2.1; have := hf.2.2.1; unfold maxLen at *; omega
  have hrow := hown.row
  have hcell : ∀ j, j < B.length → w2.cell? ⟨g, j, none⟩ = some (.int .i64 (B.getD j 0)) := fun j hj => by
    have := (hrow j hj 0 (by omega)).1
    rw [Nat.mul_one, Nat.add_zero] at this
    exact this
  have hpos := held_pos hh
  have hhead := held_head hh hs
  have hlast := held_last hh hs
  have z0 := hcell 0 hpos
  rw [hhead] at z0
  have zl := hcell (B.length - 1) (by omega)
  obtain ⟨la, hla⟩ : ∃ q, B.getD (B.length - 1) 0 = q := ⟨_, rfl⟩
  rw [hla] at zl hlast
  obtain ⟨hl1, hl2⟩ := hlast
  have hlg : 0 ≤ la := by rw [← hla]; exact (hh.2.1 _ (by have hl : B.length - 1 < B.length := by omega
                                                          simp only [List.getD, List.getElem?_eq_getElem hl, Option.getD_some]; exact List.getElem_mem _)).1
  have HC : Hid (∀ j, j < B.length → w2.cell? ⟨g, j, none⟩ = some (.int .i64 (B.getD j 0))) := hcell
  have HS : Hid (B.Pairwise (· < ·)) := hs
  clear hown hheld hb hb2 HR HU hs hh hBe hrow hcell hhead hla hf
  have hne0 : ((B.length : Int) == 0) = false := beq_eq_false_iff_ne.2 (by omega)
  have hpz : (0 : Int) < (B.length : Int) := by omega
  go_wp2_with fail
  go_loopw [12] (fun iv wr => ∃ k : Nat, 1 ≤ k ∧ k ≤ B.length ∧ iv = .int .i64 k ∧ ∃ n, wr = w2.drewN n) (fun iv _ => B.length - (intOf iv).toNat)
  case atStart => exact ⟨1, by omega, by omega, rfl, 0, rfl⟩
  case round =>
    obtain ⟨k, hk1, hk2, rfl, n, rfl⟩ := hrel
    by_cases hlt : k < B.length
    · obtain ⟨k, rfl⟩ : ∃ q, k = q + 1 := ⟨k - 1, by omega⟩
      have ca := HC.out k (by omega)
      have cb := HC.out (k + 1) (by omega)
      have hst := held_step HS.out hlt
      obtain ⟨va, hva⟩ : ∃ q, B.getD k 0 = q := ⟨_, rfl⟩
      obtain ⟨vb, hvb⟩ : ∃ q, B.getD (k + 1) 0 = q := ⟨_, rfl⟩
      rw [hva] at ca hst
      rw [hvb] at cb hst
      clear hva hvb z0 zl
      have hz1 : (k : Int) + 1 < (B.length : Int) := by omega
      have hz2 : (k : Int) < (B.length : Int) := by omega
      go_wp2_with fail
      go_quiet (fail)
      go_wp2_with fail
      go_roundw
      case rel => exact ⟨k + 2, by omega, by omega, by go_num, n + nq, by simp⟩
      case measure => simp [intOf]; omega
    · obtain rfl : k = B.length := by omega
      have hz1 : (B.length : Int) - 1 < (B.length : Int) := by omega
      have hz0 : (0 : Int) ≤ (B.length : Int) - 1 := by omega
      have hte : ((B.length : Int) - 1).toNat = B.length - 1 := by omega
      have hmx : pw L - 1 - r - la ≤ max bu 0 := hl2
      go_wp2_with fail
      go_ret
      exact ⟨ret_bool (by simp), below_drewN hB2 n⟩

/-! ### STEP 1: THE WALK -/
theorem walk (a0 : Int) (a1 : Int) (a2 : Int) (a3 : Int) (w0 : (Lit.int .i64 a0).wf = true) (w1 : (Lit.int .i64 a1).wf = true) (w2 : (Lit.int .i64 a2).wf = true) (w3 : (Lit.int .i64 a3).wf = true) (w : World) :
    Calls Try.prog 6 #[.int .i64 a0, .int .i64 a1, .int .i64 a2, .int .i64 a3] w fun e w' => e = .returned (.bool true) ∧ Below w.heap.size w w' := by
  obtain ⟨u0, u1⟩ := bounds_i64 w2
  clear w0 w2
  by_cases c1 : a1 < 0
  · go_enter Try.func6, Try.ntmps6
    go_wp2
    go_ret
    exact ⟨rfl, Below.refl _ _⟩
  · by_cases c2 : 62 < a1
    · go_enter Try.func6, Try.ntmps6
      go_wp2
      go_ret
      exact ⟨rfl, Below.refl _ _⟩
    · by_cases c3 : a3 < 0
      · go_enter Try.func6, Try.ntmps6
        go_wp2
        go_ret
        exact ⟨rfl, Below.refl _ _⟩
      · obtain ⟨L, rfl⟩ : ∃ L : Nat, a1 = L := ⟨a1.toNat, by omega⟩
        have hL : L ≤ 62 := by omega
        by_cases c4 : pw L ≤ a3
        · exact walk_none a0 a2 a3 L hL (by omega) c4 w
        · exact walk_some a0 a2 a3 L hL (by omega) (by omega) u0 u1 w

/-! ### THE ROW's STEP: WRITTEN OUT: LEAVE IT -/
set_option maxRecDepth 100000 in
theorem lifted (os : Os) (started : os.Started) (H : Type) (enc : TypeId × Value → H) :
    ReturnsInHanded {} Try.checked os 6 .any (Rows.fnHeldKeepsSeedAndThisRoundsValueNearSpec.pre6 enc Try.prog Try.f6 Rows.fnHeldKeepsSeedAndThisRoundsValueNearRow.domain false) (Rows.fnHeldKeepsSeedAndThisRoundsValueNearSpec.post enc Try.prog Try.f6 false true false false) := by
  refine returnsInHanded_of_change (C := Try.checked) own started (by kernel_rfl) Try.func6
    (ChangeSpec.witness6 (enc := enc) (C := Try.checked) false ⟨#[], #[.int .i64 0, .int .i64 0, .int .i64 0, .int .i64 0], []⟩ 8 (by kernel_rfl) (by kernel_rfl) (by kernel_rfl) (by kernel_rfl)) ?_
  intro W base args ds gs before hval0 hW hcnd _
  have hval : ∀ (j : Nat) t v, Try.f6.params[j]? = some t → args[j]? = some v → Value.okWide Try.prog W .any base t v := hval0
  have hW' := hW
  obtain ⟨p, q, hA0, hV, rfl, hfz, hnd⟩ := hW
  have hA : DataW.TrodAll enc Try.prog W 0 (fun _ => true) true Try.f6.params.toList args.toList ds p := hA0
  rw [Try.params6] at hA hval
  obtain ⟨v0, vs0, d0, ds0, p0, q0, hargs, rfl, rfl, h0, r0⟩ := trodAll_cons hA
  obtain ⟨v1, vs1, d1, ds1, p1, q1, rfl, rfl, rfl, h1, r1⟩ := trodAll_cons r0
  obtain ⟨v2, vs2, d2, ds2, p2, q2, rfl, rfl, rfl, h2, r2⟩ := trodAll_cons r1
  obtain ⟨v3, vs3, d3, ds3, p3, q3, rfl, rfl, rfl, h3, r3⟩ := trodAll_cons r2
  obtain ⟨rfl, rfl, rfl⟩ := trodAll_nil r3
  obtain rfl : args = #[v0, v1, v2, v3] := by cases args; simp_all
  obtain ⟨rfl, rfl⟩ := trodVars_none hV
  obtain ⟨a0, rfl, rfl, rfl, w0⟩ := open_int Try.underlying3 (hval 0 3 v0 rfl rfl) h0
  obtain ⟨a1, rfl, rfl, rfl, w1⟩ := open_int Try.underlying3 (hval 1 3 v1 rfl rfl) h1
  obtain ⟨a2, rfl, rfl, rfl, w2⟩ := open_int Try.underlying3 (hval 2 3 v2 rfl rfl) h2
  obtain ⟨a3, rfl, rfl, rfl, w3⟩ := open_int Try.underlying3 (hval 3 3 v3 rfl rfl) h3
  clear hA0 hval0
  simp only [List.append_nil] at hW'
  refine (walk a0 a1 a2 a3 w0 w1 w2 w3 W).mono fun e W' ⟨he, hg⟩ => ?_
  subst he
  exact ⟨_, rfl, _, _, _, [], [], [], hW', trodAll_mk1 (shut_bool Try.underlying4 _), (trodAll_cons_mk (shut_int Try.underlying3 w0) (trodAll_cons_mk (shut_int Try.underlying3 w1) (trodAll_cons_mk (shut_int Try.underlying3 w2) (trodAll_cons_mk (shut_int Try.underlying3 w3) trodAll_mk0)))), rfl, hg.frame _, fun h => by cases h⟩

theorem over : Rows.fnHeldKeepsSeedAndThisRoundsValueNearRow.holds Try.pinned (OpenSpec.ofChange Rows.fnHeldKeepsSeedAndThisRoundsValueNearSpec) :=
  OpenClaim.holds_of_wide 6 Try.f6 rfl rfl rfl rfl rfl rfl rfl ⟨rfl, rfl, rfl, rfl, rfl⟩ rfl rfl rfl rfl rfl (by kernel_rfl) Try.func6 (by kernel_rfl)
    (of_decide_eq_true (by kernel_rfl)) (by unfold Func.isWrapper; first | (rw [if_pos (by decide +kernel)]; kernel_rfl) | (rw [if_neg (by decide +kernel)]; exact ⟨rfl, rfl⟩))
    (fun os started H enc _ => lifted os started H enc)

/-- ████ THE STATEMENT ████ -/
theorem proved : Rows.FnHeldKeepsSeedAndThisRoundsValueNearSaid :=
  over
end Go.Proofs.Qxb6604778a.fnHeldKeepsSeedAndThisRoundsValueNear
