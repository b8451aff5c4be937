/-
  THE PROOF OF 'Rows.FnBeforeIsBigEndianByteOrderSaid': the frame is the seat's shell (the world behind the call told by 'Below'), the walk is ours.
-/
import Derived.Test.Qxb6605259aRows
import Derived.Test.Qxb6605259aBp
import Derived.WalkKit
import Derived.ProofKit
import Derived.OpenShut
import Derived.ShutString
namespace Go.Proofs.Qxb6605259a.fnBeforeIsBigEndianByteOrder
open Go.ChangeShapes Go.WideShapes Go.ChangeAt Go.RowKit
open Go.ChangeMaps (open_string shut_string)
set_option linter.unusedVariables false      -- a walk need not use every 'w<i>' (that an integer argument fits its kind)

theorem own : ownKnob Try.prog.godebug = none := by kernel_rfl

theorem below4 {w a b c d : World} (h1 : Below w.heap.size w a) (h2 : Below a.heap.size a b) (h3 : Below b.heap.size b c) (h4 : Below c.heap.size c d) : Below w.heap.size w d :=
  ((h1.trans (h2.mono h1.size)).trans (h3.mono (Nat.le_trans h1.size h2.size))).trans (h4.mono (Nat.le_trans h1.size (Nat.le_trans h2.size h3.size)))

/-! ### STEP 1: THE WALK -/
theorem walk (a0 : Int) (a1 : Int) (a2 : Int) (a3 : Int) (w0 : (Lit.int .u64 a0).wf = true) (w1 : (Lit.int .u64 a1).wf = true) (w2 : (Lit.int .u64 a2).wf = true) (w3 : (Lit.int .u64 a3).wf = true) (w : World) :
    Calls Try.prog 3 #[.int .u64 a0, .int .u64 a1, .int .u64 a2, .int .u64 a3] w fun e w' => e = .returned (.bool true) ∧ Below w.heap.size w w' := by
  have b0 := bounds_u64 w0
  have b1 := bounds_u64 w1
  have b2 := bounds_u64 w2
  have b3 := bounds_u64 w3
  obtain ⟨p0, q0⟩ := b0
  obtain ⟨p1, q1⟩ := b1
  obtain ⟨p2, q2⟩ := b2
  obtain ⟨p3, q3⟩ := b3
  clear w0 w1 w2 w3
  go_enter Try.func3, Try.ntmps3
  go_wp2_with fail
  refine (zzbefore_any _ _ _ _ _).mono ?_
  rintro e v1 ⟨rfl, hB1⟩
  go_wp2_with fail
  refine (big_any _ _ _ p0 q0 p1 q1).mono ?_
  rintro e v2 ⟨rfl, hB2⟩
  go_wp2_with fail
  refine (big_any _ _ _ p2 q2 p3 q3).mono ?_
  rintro e v3 ⟨rfl, hB3⟩
  go_wp2_with fail
  refine (less_any (beD a0 a1) (beD a2 a3) _).mono ?_
  rintro e v4 ⟨⟨s, rfl, hs⟩, hB4⟩
  have Z : Hid (bf a0 a1 a2 a3 = s) := be_says _ _ _ _ p0 q0 p1 q1 p2 q2 p3 q3 s hs
  clear hs
  go_wp2
  go_ret
  exact ⟨ret_bool (by rw [Z.out]; simp), below4 hB1 hB2 hB3 hB4⟩

/-! ### THE ROW's STEP: WRITTEN OUT: LEAVE IT -/
set_option maxRecDepth 100000 in
theorem lifted (os : Os) (started : os.Started) (H : Type) (enc : TypeId × Value → H) :
    ReturnsInHanded {} Try.checked os 3 .any (Rows.fnBeforeIsBigEndianByteOrderSpec.pre6 enc Try.prog Try.f3 Rows.fnBeforeIsBigEndianByteOrderRow.domain false) (Rows.fnBeforeIsBigEndianByteOrderSpec.post enc Try.prog Try.f3 false true false false) := by
  refine returnsInHanded_of_change (C := Try.checked) own started (by kernel_rfl) Try.func3
    (ChangeSpec.witness6 (enc := enc) (C := Try.checked) false ⟨#[], #[.int .u64 0, .int .u64 0, .int .u64 0, .int .u64 0], []⟩ 8 (by kernel_rfl) (by kernel_rfl) (by kernel_rfl) (by kernel_rfl)) ?_
  intro W base args ds gs before hval0 hW hcnd _
  have hval : ∀ (j : Nat) t v, Try.f3.params[j]? = some t → args[j]? = some v → Value.okWide Try.prog W .any base t v := hval0
  have hW' := hW
  obtain ⟨p, q, hA0, hV, rfl, hfz, hnd⟩ := hW
  have hA : DataW.TrodAll enc Try.prog W 0 (fun _ => true) true Try.f3.params.toList args.toList ds p := hA0
  rw [Try.params3] at hA hval
  obtain ⟨v0, vs0, d0, ds0, p0, q0, hargs, rfl, rfl, h0, r0⟩ := trodAll_cons hA
  obtain ⟨v1, vs1, d1, ds1, p1, q1, rfl, rfl, rfl, h1, r1⟩ := trodAll_cons r0
  obtain ⟨v2, vs2, d2, ds2, p2, q2, rfl, rfl, rfl, h2, r2⟩ := trodAll_cons r1
  obtain ⟨v3, vs3, d3, ds3, p3, q3, rfl, rfl, rfl, h3, r3⟩ := trodAll_cons r2
  obtain ⟨rfl, rfl, rfl⟩ := trodAll_nil r3
  obtain rfl : args = #[v0, v1, v2, v3] := by cases args; simp_all
  obtain ⟨rfl, rfl⟩ := trodVars_none hV
  obtain ⟨a0, rfl, rfl, rfl, w0⟩ := open_int Try.underlying22 (hval 0 22 v0 rfl rfl) h0
  obtain ⟨a1, rfl, rfl, rfl, w1⟩ := open_int Try.underlying22 (hval 1 22 v1 rfl rfl) h1
  obtain ⟨a2, rfl, rfl, rfl, w2⟩ := open_int Try.underlying22 (hval 2 22 v2 rfl rfl) h2
  obtain ⟨a3, rfl, rfl, rfl, w3⟩ := open_int Try.underlying22 (hval 3 22 v3 rfl rfl) h3
  clear hA0 hval0
  simp only [List.append_nil] at hW'
  refine (walk a0 a1 a2 a3 w0 w1 w2 w3 W).mono fun e W' ⟨he, hg⟩ => ?_
  subst he
  exact ⟨_, rfl, _, _, _, [], [], [], hW', trodAll_mk1 (shut_bool Try.underlying4 _), (trodAll_cons_mk (shut_int Try.underlying22 w0) (trodAll_cons_mk (shut_int Try.underlying22 w1) (trodAll_cons_mk (shut_int Try.underlying22 w2) (trodAll_cons_mk (shut_int Try.underlying22 w3) trodAll_mk0)))), rfl, hg.frame _, fun h => by cases h⟩

theorem over : Rows.fnBeforeIsBigEndianByteOrderRow.holds Try.pinned (OpenSpec.ofChange Rows.fnBeforeIsBigEndianByteOrderSpec) :=
  OpenClaim.holds_of_wide 3 Try.f3 rfl rfl rfl rfl rfl rfl rfl ⟨rfl, rfl, rfl, rfl, rfl⟩ rfl rfl rfl rfl rfl (by kernel_rfl) Try.func3 (by kernel_rfl)
    (of_decide_eq_true (by kernel_rfl)) (by unfold Func.isWrapper; first | (rw [if_pos (by decide +kernel)]; kernel_rfl) | (rw [if_neg (by decide +kernel)]; exact ⟨rfl, rfl⟩))
    (fun os started H enc _ => lifted os started H enc)

/-- ████ THE STATEMENT ████ -/
theorem proved : Rows.FnBeforeIsBigEndianByteOrderSaid :=
  over
end Go.Proofs.Qxb6605259a.fnBeforeIsBigEndianByteOrder
