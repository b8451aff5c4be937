/-
  THE PROOF OF 'Rows.FnBeforeIsStrictTotalOrderSaid': the frame is the seat's shell (the world behind the call told by 'Below'), the walk is ours.
-/
import Derived.Test.Qxb6605259aRows
import Derived.Test.Qxb6605259aBw
import Derived.WalkKit
import Derived.ProofKit
import Derived.OpenShut
import Derived.ShutString
namespace Go.Proofs.Qxb6605259a.fnBeforeIsStrictTotalOrder
open Go.ChangeShapes Go.WideShapes Go.ChangeAt Go.RowKit
open Go.ChangeMaps (open_string shut_string)
set_option linter.unusedVariables false      -- a walk need not use every 'w<i>' (that an integer argument fits its kind)

theorem own : ownKnob Try.prog.godebug = none := by kernel_rfl

theorem bf_trans {a b c d e f : Int} (h : bf a b c d = true) (k : bf c d e f = true) : bf a b e f = true := by
  unfold bf at *; simp at *; omega
theorem below4 {w a b c d : World} (h1 : Below w.heap.size w a) (h2 : Below a.heap.size a b) (h3 : Below b.heap.size b c) (h4 : Below c.heap.size c d) : Below w.heap.size w d :=
  ((h1.trans (h2.mono h1.size)).trans (h3.mono (Nat.le_trans h1.size h2.size))).trans (h4.mono (Nat.le_trans h1.size (Nat.le_trans h2.size h3.size)))

/-! ### STEP 1: THE WALK -/
theorem walk (a0 : Int) (a1 : Int) (a2 : Int) (a3 : Int) (a4 : Int) (a5 : Int) (w0 : (Lit.int .u64 a0).wf = true) (w1 : (Lit.int .u64 a1).wf = true) (w2 : (Lit.int .u64 a2).wf = true) (w3 : (Lit.int .u64 a3).wf = true) (w4 : (Lit.int .u64 a4).wf = true) (w5 : (Lit.int .u64 a5).wf = true) (w : World) :
    Calls Try.prog 4 #[.int .u64 a0, .int .u64 a1, .int .u64 a2, .int .u64 a3, .int .u64 a4, .int .u64 a5] w fun e w' => e = .returned (.bool true) ∧ Below w.heap.size w w' := by
  clear w0 w1 w2 w3 w4 w5
  by_cases e0 : a0 = a2
  · subst e0
    by_cases e1 : a1 = a3
    · subst e1
      have p1 : bf a0 a1 a0 a1 = false := by unfold bf; simp
      go_enter Try.func4, Try.ntmps4
      go_wp2_with fail
      refine (zzbefore_any _ _ _ _ _).mono ?_
      rintro e v1 ⟨rfl, hB1⟩
      go_wp2_with fail
      refine (zzbefore_any _ _ _ _ _).mono ?_
      rintro e v2 ⟨rfl, hB2⟩
      go_wp2_with fail
      refine (zzbefore_any _ _ _ _ _).mono ?_
      rintro e v3 ⟨rfl, hB3⟩
      go_wp2_with fail
      refine (zzbefore_any _ _ _ _ _).mono ?_
      rintro e v4 ⟨rfl, hB4⟩
      go_wp2
      go_ret
      exact ⟨rfl, below4 hB1 hB2 hB3 hB4⟩
    · by_cases l1 : a1 < a3
      · have p1 : bf a0 a1 a0 a3 = true := by unfold bf; simp [l1]
        have p2 : bf a0 a3 a0 a1 = false := by unfold bf; simp; omega
        have t1 : (a1 == a3) = false := by simp; omega
        by_cases p3 : bf a0 a3 a4 a5 = true
        · have p4 : bf a0 a1 a4 a5 = true := bf_trans p1 p3
          go_enter Try.func4, Try.ntmps4
          go_wp2_with fail
          refine (zzbefore_any _ _ _ _ _).mono ?_
          rintro e v1 ⟨rfl, hB1⟩
          go_wp2_with fail
          refine (zzbefore_any _ _ _ _ _).mono ?_
          rintro e v2 ⟨rfl, hB2⟩
          go_wp2_with fail
          refine (zzbefore_any _ _ _ _ _).mono ?_
          rintro e v3 ⟨rfl, hB3⟩
          go_wp2_with fail
          refine (zzbefore_any _ _ _ _ _).mono ?_
          rintro e v4 ⟨rfl, hB4⟩
          go_wp2
          go_ret
          exact ⟨rfl, below4 hB1 hB2 hB3 hB4⟩
        · have p3' : bf a0 a3 a4 a5 = false := by simpa using p3
          clear p3
          go_enter Try.func4, Try.ntmps4
          go_wp2_with fail
          refine (zzbefore_any _ _ _ _ _).mono ?_
          rintro e v1 ⟨rfl, hB1⟩
          go_wp2_with fail
          refine (zzbefore_any _ _ _ _ _).mono ?_
          rintro e v2 ⟨rfl, hB2⟩
          go_wp2_with fail
          refine (zzbefore_any _ _ _ _ _).mono ?_
          rintro e v3 ⟨rfl, hB3⟩
          go_wp2_with fail
          refine (zzbefore_any _ _ _ _ _).mono ?_
          rintro e v4 ⟨rfl, hB4⟩
          go_wp2
          go_ret
          exact ⟨rfl, below4 hB1 hB2 hB3 hB4⟩
      · have p1 : bf a0 a1 a0 a3 = false := by unfold bf; simp; omega
        have p2 : bf a0 a3 a0 a1 = true := by unfold bf; simp; omega
        have t1 : (a1 == a3) = false := by simp; omega
        go_enter Try.func4, Try.ntmps4
        go_wp2_with fail
        refine (zzbefore_any _ _ _ _ _).mono ?_
        rintro e v1 ⟨rfl, hB1⟩
        go_wp2_with fail
        refine (zzbefore_any _ _ _ _ _).mono ?_
        rintro e v2 ⟨rfl, hB2⟩
        go_wp2_with fail
        refine (zzbefore_any _ _ _ _ _).mono ?_
        rintro e v3 ⟨rfl, hB3⟩
        go_wp2_with fail
        refine (zzbefore_any _ _ _ _ _).mono ?_
        rintro e v4 ⟨rfl, hB4⟩
        go_wp2
        go_ret
        exact ⟨rfl, below4 hB1 hB2 hB3 hB4⟩
  · have t0 : (a0 == a2) = false := by simp; omega
    by_cases l0 : a0 < a2
    · have p1 : bf a0 a1 a2 a3 = true := by unfold bf; simp [l0]
      have p2 : bf a2 a3 a0 a1 = false := by unfold bf; simp; omega
      by_cases p3 : bf a2 a3 a4 a5 = true
      · have p4 : bf a0 a1 a4 a5 = true := bf_trans p1 p3
        go_enter Try.func4, Try.ntmps4
        go_wp2_with fail
        refine (zzbefore_any _ _ _ _ _).mono ?_
        rintro e v1 ⟨rfl, hB1⟩
        go_wp2_with fail
        refine (zzbefore_any _ _ _ _ _).mono ?_
        rintro e v2 ⟨rfl, hB2⟩
        go_wp2_with fail
        refine (zzbefore_any _ _ _ _ _).mono ?_
        rintro e v3 ⟨rfl, hB3⟩
        go_wp2_with fail
        refine (zzbefore_any _ _ _ _ _).mono ?_
        rintro e v4 ⟨rfl, hB4⟩
        go_wp2
        go_ret
        exact ⟨rfl, below4 hB1 hB2 hB3 hB4⟩
      · have p3' : bf a2 a3 a4 a5 = false := by simpa using p3
        clear p3
        go_enter Try.func4, Try.ntmps4
        go_wp2_with fail
        refine (zzbefore_any _ _ _ _ _).mono ?_
        rintro e v1 ⟨rfl, hB1⟩
        go_wp2_with fail
        refine (zzbefore_any _ _ _ _ _).mono ?_
        rintro e v2 ⟨rfl, hB2⟩
        go_wp2_with fail
        refine (zzbefore_any _ _ _ _ _).mono ?_
        rintro e v3 ⟨rfl, hB3⟩
        go_wp2_with fail
        refine (zzbefore_any _ _ _ _ _).mono ?_
        rintro e v4 ⟨rfl, hB4⟩
        go_wp2
        go_ret
        exact ⟨rfl, below4 hB1 hB2 hB3 hB4⟩
    · have p1 : bf a0 a1 a2 a3 = false := by unfold bf; simp; omega
      have p2 : bf a2 a3 a0 a1 = true := by unfold bf; simp; omega
      go_enter Try.func4, Try.ntmps4
      go_wp2_with fail
      refine (zzbefore_any _ _ _ _ _).mono ?_
      rintro e v1 ⟨rfl, hB1⟩
      go_wp2_with fail
      refine (zzbefore_any _ _ _ _ _).mono ?_
      rintro e v2 ⟨rfl, hB2⟩
      go_wp2_with fail
      refine (zzbefore_any _ _ _ _ _).mono ?_
      rintro e v3 ⟨rfl, hB3⟩
      go_wp2_with fail
      refine (zzbefore_any _ _ _ _ _).mono ?_
      rintro e v4 ⟨rfl, hB4⟩
      go_wp2
      go_ret
      exact ⟨rfl, below4 hB1 hB2 hB3 hB4⟩

/-! ### THE ROW's STEP: WRITTEN OUT: LEAVE IT -/
set_option maxRecDepth 100000 in
theorem lifted (os : Os) (started : os.Started) (H : Type) (enc : TypeId × Value → H) :
    ReturnsInHanded {} Try.checked os 4 .any (Rows.fnBeforeIsStrictTotalOrderSpec.pre6 enc Try.prog Try.f4 Rows.fnBeforeIsStrictTotalOrderRow.domain false) (Rows.fnBeforeIsStrictTotalOrderSpec.post enc Try.prog Try.f4 false true false false) := by
  refine returnsInHanded_of_change (C := Try.checked) own started (by kernel_rfl) Try.func4
    (ChangeSpec.witness6 (enc := enc) (C := Try.checked) false ⟨#[], #[.int .u64 0, .int .u64 0, .int .u64 0, .int .u64 0, .int .u64 0, .int .u64 0], []⟩ 8 (by kernel_rfl) (by kernel_rfl) (by kernel_rfl) (by kernel_rfl)) ?_
  intro W base args ds gs before hval0 hW hcnd _
  have hval : ∀ (j : Nat) t v, Try.f4.params[j]? = some t → args[j]? = some v → Value.okWide Try.prog W .any base t v := hval0
  have hW' := hW
  obtain ⟨p, q, hA0, hV, rfl, hfz, hnd⟩ := hW
  have hA : DataW.TrodAll enc Try.prog W 0 (fun _ => true) true Try.f4.params.toList args.toList ds p := hA0
  rw [Try.params4] at hA hval
  obtain ⟨v0, vs0, d0, ds0, p0, q0, hargs, rfl, rfl, h0, r0⟩ := trodAll_cons hA
  obtain ⟨v1, vs1, d1, ds1, p1, q1, rfl, rfl, rfl, h1, r1⟩ := trodAll_cons r0
  obtain ⟨v2, vs2, d2, ds2, p2, q2, rfl, rfl, rfl, h2, r2⟩ := trodAll_cons r1
  obtain ⟨v3, vs3, d3, ds3, p3, q3, rfl, rfl, rfl, h3, r3⟩ := trodAll_cons r2
  obtain ⟨v4, vs4, d4, ds4, p4, q4, rfl, rfl, rfl, h4, r4⟩ := trodAll_cons r3
  obtain ⟨v5, vs5, d5, ds5, p5, q5, rfl, rfl, rfl, h5, r5⟩ := trodAll_cons r4
  obtain ⟨rfl, rfl, rfl⟩ := trodAll_nil r5
  obtain rfl : args = #[v0, v1, v2, v3, v4, v5] := by cases args; simp_all
  obtain ⟨rfl, rfl⟩ := trodVars_none hV
  obtain ⟨a0, rfl, rfl, rfl, w0⟩ := open_int Try.underlying22 (hval 0 22 v0 rfl rfl) h0
  obtain ⟨a1, rfl, rfl, rfl, w1⟩ := open_int Try.underlying22 (hval 1 22 v1 rfl rfl) h1
  obtain ⟨a2, rfl, rfl, rfl, w2⟩ := open_int Try.underlying22 (hval 2 22 v2 rfl rfl) h2
  obtain ⟨a3, rfl, rfl, rfl, w3⟩ := open_int Try.underlying22 (hval 3 22 v3 rfl rfl) h3
  obtain ⟨a4, rfl, rfl, rfl, w4⟩ := open_int Try.underlying22 (hval 4 22 v4 rfl rfl) h4
  obtain ⟨a5, rfl, rfl, rfl, w5⟩ := open_int Try.underlying22 (hval 5 22 v5 rfl rfl) h5
  clear hA0 hval0
  simp only [List.append_nil] at hW'
  refine (walk a0 a1 a2 a3 a4 a5 w0 w1 w2 w3 w4 w5 W).mono fun e W' ⟨he, hg⟩ => ?_
  subst he
  exact ⟨_, rfl, _, _, _, [], [], [], hW', trodAll_mk1 (shut_bool Try.underlying4 _), (trodAll_cons_mk (shut_int Try.underlying22 w0) (trodAll_cons_mk (shut_int Try.underlying22 w1) (trodAll_cons_mk (shut_int Try.underlying22 w2) (trodAll_cons_mk (shut_int Try.underlying22 w3) (trodAll_cons_mk (shut_int Try.underlying22 w4) (trodAll_cons_mk (shut_int Try.underlying22 w5) trodAll_mk0)))))), rfl, hg.frame _, fun h => by cases h⟩

theorem over : Rows.fnBeforeIsStrictTotalOrderRow.holds Try.pinned (OpenSpec.ofChange Rows.fnBeforeIsStrictTotalOrderSpec) :=
  OpenClaim.holds_of_wide 4 Try.f4 rfl rfl rfl rfl rfl rfl rfl ⟨rfl, rfl, rfl, rfl, rfl⟩ rfl rfl rfl rfl rfl (by kernel_rfl) Try.func4 (by kernel_rfl)
    (of_decide_eq_true (by kernel_rfl)) (by unfold Func.isWrapper; first | (rw [if_pos (by decide +kernel)]; kernel_rfl) | (rw [if_neg (by decide +kernel)]; exact ⟨rfl, rfl⟩))
    (fun os started H enc _ => lifted os started H enc)

/-- ████ THE STATEMENT ████ -/
theorem proved : Rows.FnBeforeIsStrictTotalOrderSaid :=
  over
end Go.Proofs.Qxb6605259a.fnBeforeIsStrictTotalOrder
