/-
  THE PROOF OF 'Rows.FnWalksAreTheOpenWalksOfRoundsSegmentsSaid': the frame is the seat's shell (the world behind the call told by 'Below'), the walk is ours.
-/
import Derived.Test.Qxb6604778aRows
import Derived.Test.Qxb6604778aWq
import Derived.WalkKit
import Derived.ProofKit
import Derived.OpenShut
import Derived.ShutString
namespace Go.Proofs.Qxb6604778a.fnWalksAreTheOpenWalksOfRoundsSegments
open Go.ChangeShapes Go.WideShapes Go.ChangeAt Go.RowKit
open Go.Sort (grow)
open Go.ChangeMaps (open_string shut_string)
set_option linter.unusedVariables false      -- a walk need not use every 'w<i>' (that an integer argument fits its kind)

theorem own : ownKnob Try.prog.godebug = none := by kernel_rfl

theorem walk_none (a0 a2 r : Int) (L : Nat) (hL : L ≤ 62) (hr0 : 0 ≤ r) (hr : pw L ≤ r) (w : World) :
    Calls Try.prog 5 #[.int .i64 a0, .int .i64 L, .int .i64 a2, .int .i64 r] w fun e w' => e = .returned (.bool true) ∧ Below w.heap.size w w' := by
  have e1 : ∀ j, j ≤ 62 → wrap64 ((2 : Int) ^ j) = pw j := fun j h => wrap_pw h
  have hnil : ∀ (w : World) (a : Option Addr) (n c n' c' : Nat), (binOp .eql 25 (.slice a n c) (.slice none n' c')).run Try.prog w = .ok (.bool a.isNone) w := fun w a n c n' c' => Lib.run_eql_slice_nil w _ _ a n c n' c' Try.underlying25
  have hlz : (L : Int) ≤ 62 := by omega
  go_enter Try.func5, Try.ntmps5
  go_wp2_with (go_at_call 10; refine (zzwalks_none _ _ _ _ hL hr _).mono ?_; rintro e w1 ⟨rfl, hb⟩)
  go_ret
  exact ⟨rfl, hb⟩

/-- what the loop's round reads of the two rows. -/
theorem round_facts {L : Nat} {r bu : Int} {n k : Nat} {U : Nat → Int} (hk : k < (sorL r n).length) (hn : n ≤ 61) : ∃ x : Nat, (sorL r n).getD k 0 = x ∧ x ≤ 60 ∧
    rowU L r n U (sorL r n).length k 0 = (x : Int) + 2 ∧ rowU L r n U (sorL r n).length k 1 = lowW L r x ∧ rowU L r n U (sorL r n).length k 2 = topW L r x ∧ rowU L r n U (sorL r n).length k 3 = bgn r x ∧ rowU L r n U (sorL r n).length k 4 = duo r x ∧ rowU L r n U (sorL r n).length k 5 = U k ∧
    fldK L r x 0 = (x : Int) + 2 ∧ fldK L r x 1 = lowW L r x ∧ fldK L r x 2 = topW L r x ∧ fldK L r x 3 = bgn r x ∧ fldK L r x 4 = duo r x := by
  have hm := sorL_getD_mem hk
  obtain ⟨x, hx⟩ : ∃ x, (sorL r n).getD k 0 = x := ⟨_, rfl⟩
  have h60 : x ≤ 60 := by omega
  have m : min x 60 = x := by omega
  unfold rowU
  rw [hx, if_pos hk]
  refine ⟨x, rfl, h60, ?_⟩
  simp [fldK, m]

set_option maxRecDepth 100000 in
set_option maxHeartbeats 1000000 in
theorem walk_some (a0 bu r : Int) (L : Nat) (hL : L ≤ 62) (hr0 : 0 ≤ r) (hr : r < pw L) (hbu0 : -9223372036854775808 ≤ bu) (hbu1 : bu ≤ 9223372036854775807) (w : World) :
    Calls Try.prog 5 #[.int .i64 a0, .int .i64 L, .int .i64 bu, .int .i64 r] w fun e w' => e = .returned (.bool true) ∧ Below w.heap.size w w' := by
  have e1 : ∀ j, j ≤ 62 → wrap64 ((2 : Int) ^ j) = pw j := fun j h => wrap_pw h
  have hlz : (L : Int) ≤ 62 := by omega
  have hN := sorL_length r (L - 1)
  have p2 : pw L ≤ 4611686018427387904 := by rw [← pw_62]; exact pw_mono (by omega)
  go_enter Try.func5, Try.ntmps5
  go_wp2_with fail
  refine (zzwalks_any _ _ _ _ hL hr0 hr hbu0 hbu1 _).mono ?_
  rintro e w1 ⟨⟨g, cap, U, rfl, hU, hrow, hg0, hg1⟩, hb⟩
  have HU : Hid _ := hU
  have HR : Hid _ := hrow
  clear hU hrow
  go_wp2_with fail
  refine (openw_any _ _ hL hr0 hr _).mono ?_
  rintro e w2 ⟨⟨h, caph, rfl, hrow2, hh0, hh1⟩, hb2⟩
  have hrow1 := Row.below HR.out hb2 hg1
  have HR1 : Hid _ := hrow1
  have HR2 : Hid _ := hrow2
  have hB2 : Below w.heap.size w w2 := hb.trans (hb2.mono hb.size)
  have hg2 : g < w2.heap.size := Nat.lt_of_lt_of_le hg1 hb2.size
  have hz2 := hB2.size
  clear hrow1 hrow2 HR hb hb2
  go_wp2_with fail
  go_loopw [48] (fun i wr => ∃ k : Nat, k ≤ (sorL r (L - 1)).length ∧ i = .int .i64 k ∧ Row wr g 6 (sorL r (L - 1)).length (rowU L r (L - 1) U (sorL r (L - 1)).length) ∧ Row wr h 5 (sorL r (L - 1)).length (fun i c => fldK L r ((sorL r (L - 1)).getD i 0) c) ∧ Below w.heap.size w wr ∧ g < wr.heap.size ∧ h < wr.heap.size ∧ w.heap.size ≤ wr.heap.size) (fun i _ => 100 - (intOf i).toNat)
  case atStart => exact ⟨0, Nat.zero_le _, rfl, HR1.out, HR2.out, hB2, hg2, hh1, hz2⟩
  case round =>
    clear HR1 HR2 hB2 hg2 hh1 hz2
    obtain ⟨k, hk, rfl, hrow1, hrow2, hB, hg, hh, hz⟩ := hrel
    by_cases hlt : k < (sorL r (L - 1)).length
    · obtain ⟨x, hx, hx60, r0, r1, r2, r3, r4, r5, f0, f1, f2, f3, f4⟩ := round_facts (L := L) (U := U) (bu := bu) hlt (by omega)
      have hok := HU.out k hlt
      rw [hx] at hok
      obtain ⟨ok1, ok2, ok3, ok4⟩ := hok
      unfold full at ok1 ok2 ok4
      have c0 := (hrow1 k hlt 0 (by omega)).1
      have c1 := (hrow1 k hlt 1 (by omega)).1
      have c2 := (hrow1 k hlt 2 (by omega)).1
      have c3 := (hrow1 k hlt 3 (by omega)).1
      have c4 := (hrow1 k hlt 4 (by omega)).1
      have c5 := (hrow1 k hlt 5 (by omega)).1
      have d0 := (hrow2 k hlt 0 (by omega)).1
      have d1 := (hrow2 k hlt 1 (by omega)).1
      have d2 := (hrow2 k hlt 2 (by omega)).1
      have d3 := (hrow2 k hlt 3 (by omega)).1
      have d4 := (hrow2 k hlt 4 (by omega)).1
      rw [r0, Nat.add_zero] at c0
      rw [r1] at c1
      rw [r2] at c2
      rw [r3] at c3
      rw [r4] at c4
      rw [r5] at c5
      simp only [hx, f0, Nat.add_zero] at d0
      simp only [hx, f1] at d1
      simp only [hx, f2] at d2
      simp only [hx, f3] at d3
      simp only [hx, f4] at d4
      have HR1 : Hid _ := hrow1
      have HR2 : Hid _ := hrow2
      have hm := sorL_getD_mem hlt
      rw [hx] at hm
      have hxL : x + 2 ≤ L := by omega
      have bs : bgn r x + pw (x + 2) ≤ pw L := bgn_span hxL hr
      have b0 := bgn_nonneg hr0 x
      have q1 := pw_pos (x + 1)
      have q2 : pw (x + 2) = 2 * pw (x + 1) := pw_succ (x + 1)
      have l0 : 0 ≤ lowW L r x := by unfold lowW; omega
      have l1 : lowW L r x ≤ 4611686018427387904 := by unfold lowW; omega
      have t0 : 0 ≤ topW L r x := by unfold topW; omega
      have t1 : topW L r x ≤ 4611686018427387904 := by unfold topW lowW; omega
      have hltz : (k : Int) < ((sorL r (L - 1)).length : Int) := by omega
      have OK1 : Hid (bgn r x = r → U k = topW L r x - lowW L r x) := ok1
      have OK2 : Hid (r = duo r x → U k = min (topW L r x - lowW L r x) (max bu 0)) := ok2
      clear bs q1 q2 b0 hm hrow1 hrow2 hx r0 r1 r2 r3 r4 r5 f0 f1 f2 f3 f4 ok1 ok2
      have hgn : ¬ g = wr.heap.size := by omega
      have hhn : ¬ h = wr.heap.size := by omega
      have hhn1 : ¬ h = wr.heap.size + 1 := by omega
      by_cases e1 : bgn r x = r
      · have v := OK1.out e1
        have t1 : (bgn r x == r) = true := by simp [e1]
        have t2 : (U k != topW L r x - lowW L r x) = false := by simp [v]
        clear v e1
        go_wp2_with fail
        go_roundw
        case rel => exact ⟨k + 1, by omega, by go_num, Row.alloc (Row.alloc HR1.out hg _) (by simp; omega) _, Row.alloc (Row.alloc HR2.out hh _) (by simp; omega) _, (hB.alloc hz _).alloc (by simp; omega) _, by simp; omega, by simp; omega, by simp; omega⟩
        case measure => simp [intOf]; omega
      · by_cases e2 : duo r x = r
        · have v := OK2.out e2.symm
          have t1 : (bgn r x == r) = false := by simp [e1]
          have t2 : (duo r x == r) = true := by simp [e2]
          have t3 : (U k != min (topW L r x - lowW L r x) (max bu 0)) = false := by simp [v]
          clear v e1 e2
          go_wp2_with fail
          go_roundw
          case rel => exact ⟨k + 1, by omega, by go_num, Row.alloc (Row.alloc HR1.out hg _) (by simp; omega) _, Row.alloc (Row.alloc HR2.out hh _) (by simp; omega) _, (hB.alloc hz _).alloc (by simp; omega) _, by simp; omega, by simp; omega, by simp; omega⟩
          case measure => simp [intOf]; omega
        · have t1 : (bgn r x == r) = false := by simp [e1]
          have t2 : (duo r x == r) = false := by simp [e2]
          clear e1 e2
          go_wp2_with fail
          go_roundw
          case rel => exact ⟨k + 1, by omega, by go_num, Row.alloc (Row.alloc HR1.out hg _) (by simp; omega) _, Row.alloc (Row.alloc HR2.out hh _) (by simp; omega) _, (hB.alloc hz _).alloc (by simp; omega) _, by simp; omega, by simp; omega, by simp; omega⟩
          case measure => simp [intOf]; omega
    · go_wp2_with fail
      go_ret
      exact ⟨rfl, hB⟩

/-! ### STEP 1: THE WALK -/
theorem walk (a0 : Int) (a1 : Int) (a2 : Int) (a3 : Int) (w0 : (Lit.int .i64 a0).wf = true) (w1 : (Lit.int .i64 a1).wf = true) (w2 : (Lit.int .i64 a2).wf = true) (w3 : (Lit.int .i64 a3).wf = true) (w : World) :
    Calls Try.prog 5 #[.int .i64 a0, .int .i64 a1, .int .i64 a2, .int .i64 a3] w fun e w' => e = .returned (.bool true) ∧ Below w.heap.size w w' := by
  obtain ⟨u0, u1⟩ := bounds_i64 w2
  clear w0 w2
  by_cases c1 : a1 < 0
  · go_enter Try.func5, Try.ntmps5
    go_wp2
    go_ret
    exact ⟨rfl, Below.refl _ _⟩
  · by_cases c2 : 62 < a1
    · go_enter Try.func5, Try.ntmps5
      go_wp2
      go_ret
      exact ⟨rfl, Below.refl _ _⟩
    · by_cases c3 : a3 < 0
      · go_enter Try.func5, Try.ntmps5
        go_wp2
        go_ret
        exact ⟨rfl, Below.refl _ _⟩
      · obtain ⟨L, rfl⟩ : ∃ L : Nat, a1 = L := ⟨a1.toNat, by omega⟩
        have hL : L ≤ 62 := by omega
        by_cases c4 : pw L ≤ a3
        · exact walk_none a0 a2 a3 L hL (by omega) c4 w
        · exact walk_some a0 a2 a3 L hL (by omega) (by omega) u0 u1 w

/-! ### THE ROW's STEP: WRITTEN OUT: LEAVE IT -/
set_option maxRecDepth 100000 in
theorem lifted (os : Os) (started : os.Started) (H : Type) (enc : TypeId × Value → H) :
    ReturnsInHanded {} Try.checked os 5 .any (Rows.fnWalksAreTheOpenWalksOfRoundsSegmentsSpec.pre6 enc Try.prog Try.f5 Rows.fnWalksAreTheOpenWalksOfRoundsSegmentsRow.domain false) (Rows.fnWalksAreTheOpenWalksOfRoundsSegmentsSpec.post enc Try.prog Try.f5 false true false false) := by
  refine returnsInHanded_of_change (C := Try.checked) own started (by kernel_rfl) Try.func5
    (ChangeSpec.witness6 (enc := enc) (C := Try.checked) false ⟨#[], #[.int .i64 0, .int .i64 0, .int .i64 0, .int .i64 0], []⟩ 8 (by kernel_rfl) (by kernel_rfl) (by kernel_rfl) (by kernel_rfl)) ?_
  intro W base args ds gs before hval0 hW hcnd _
  have hval : ∀ (j : Nat) t v, Try.f5.params[j]? = some t → args[j]? = some v → Value.okWide Try.prog W .any base t v := hval0
  have hW' := hW
  obtain ⟨p, q, hA0, hV, rfl, hfz, hnd⟩ := hW
  have hA : DataW.TrodAll enc Try.prog W 0 (fun _ => true) true Try.f5.params.toList args.toList ds p := hA0
  rw [Try.params5] at hA hval
  obtain ⟨v0, vs0, d0, ds0, p0, q0, hargs, rfl, rfl, h0, r0⟩ := trodAll_cons hA
  obtain ⟨v1, vs1, d1, ds1, p1, q1, rfl, rfl, rfl, h1, r1⟩ := trodAll_cons r0
  obtain ⟨v2, vs2, d2, ds2, p2, q2, rfl, rfl, rfl, h2, r2⟩ := trodAll_cons r1
  obtain ⟨v3, vs3, d3, ds3, p3, q3, rfl, rfl, rfl, h3, r3⟩ := trodAll_cons r2
  obtain ⟨rfl, rfl, rfl⟩ := trodAll_nil r3
  obtain rfl : args = #[v0, v1, v2, v3] := by cases args; simp_all
  obtain ⟨rfl, rfl⟩ := trodVars_none hV
  obtain ⟨a0, rfl, rfl, rfl, w0⟩ := open_int Try.underlying3 (hval 0 3 v0 rfl rfl) h0
  obtain ⟨a1, rfl, rfl, rfl, w1⟩ := open_int Try.underlying3 (hval 1 3 v1 rfl rfl) h1
  obtain ⟨a2, rfl, rfl, rfl, w2⟩ := open_int Try.underlying3 (hval 2 3 v2 rfl rfl) h2
  obtain ⟨a3, rfl, rfl, rfl, w3⟩ := open_int Try.underlying3 (hval 3 3 v3 rfl rfl) h3
  clear hA0 hval0
  simp only [List.append_nil] at hW'
  refine (walk a0 a1 a2 a3 w0 w1 w2 w3 W).mono fun e W' ⟨he, hg⟩ => ?_
  subst he
  exact ⟨_, rfl, _, _, _, [], [], [], hW', trodAll_mk1 (shut_bool Try.underlying4 _), (trodAll_cons_mk (shut_int Try.underlying3 w0) (trodAll_cons_mk (shut_int Try.underlying3 w1) (trodAll_cons_mk (shut_int Try.underlying3 w2) (trodAll_cons_mk (shut_int Try.underlying3 w3) trodAll_mk0)))), rfl, hg.frame _, fun h => by cases h⟩

theorem over : Rows.fnWalksAreTheOpenWalksOfRoundsSegmentsRow.holds Try.pinned (OpenSpec.ofChange Rows.fnWalksAreTheOpenWalksOfRoundsSegmentsSpec) :=
  OpenClaim.holds_of_wide 5 Try.f5 rfl rfl rfl rfl rfl rfl rfl ⟨rfl, rfl, rfl, rfl, rfl⟩ rfl rfl rfl rfl rfl (by kernel_rfl) Try.func5 (by kernel_rfl)
    (of_decide_eq_true (by kernel_rfl)) (by unfold Func.isWrapper; first | (rw [if_pos (by decide +kernel)]; kernel_rfl) | (rw [if_neg (by decide +kernel)]; exact ⟨rfl, rfl⟩))
    (fun os started H enc _ => lifted os started H enc)

/-- ████ THE STATEMENT ████ -/
theorem proved : Rows.FnWalksAreTheOpenWalksOfRoundsSegmentsSaid :=
  over
end Go.Proofs.Qxb6604778a.fnWalksAreTheOpenWalksOfRoundsSegments
