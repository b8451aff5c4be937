/-
  THE WALK of 'before' and 'ZZBefore'.
-/
import Derived.Test.Qxb6605259aRows
import Derived.WalkKit
import Derived.WalkSpells
import Derived.WalkLawsBesides
import Derived.Deep.QuietTactic
import Derived.BigQuiet
namespace Go.Proofs.Qxb6605259a
open Go.RowKit

theorem ret_bool {a b : Bool} (h : a = b) : Ending.returned (.bool a) = .returned (.bool b) := by rw [h]
theorem val_int {k : IntKind} {a b : Int} (h : a = b) : Value.int k a = .int k b := by rw [h]

/-- p before q: by block, then by index. -/
def bf (pb pi qb qi : Int) : Bool := decide (pb < qb ∨ (pb = qb ∧ pi < qi))

set_option maxHeartbeats 400000 in
theorem before_any (pb pi qb qi : Int) (w : World) :
    Calls Try.prog 14 #[.agg #[.int .u64 pb, .int .u64 pi], .agg #[.int .u64 qb, .int .u64 qi]] w fun e w' => e = .returned (.bool (bf pb pi qb qi)) ∧ Below w.heap.size w w' := by
  by_cases h : pb = qb
  · subst h
    go_enter Try.func14, Try.ntmps14
    go_wp2
    go_ret
    exact ⟨ret_bool (by unfold bf; simp), ((Below.refl _ _).alloc (Nat.le_refl _) _).alloc (by simp) _⟩
  · have t : (pb != qb) = true := by simp [h]
    go_enter Try.func14, Try.ntmps14
    go_wp2
    go_ret
    exact ⟨ret_bool (by unfold bf; simp [h]), ((Below.refl _ _).alloc (Nat.le_refl _) _).alloc (by simp) _⟩

set_option maxHeartbeats 400000 in
theorem zzbefore_any (pb pi qb qi : Int) (w : World) :
    Calls Try.prog 6 #[.int .u64 pb, .int .u64 pi, .int .u64 qb, .int .u64 qi] w fun e w' => e = .returned (.bool (bf pb pi qb qi)) ∧ Below w.heap.size w w' := by
  go_enter Try.func6, Try.ntmps6
  go_wp2_with (go_at_call 14; refine (before_any _ _ _ _ _).mono ?_; rintro e w' ⟨rfl, hB⟩)
  go_ret
  exact ⟨rfl, hB⟩
end Go.Proofs.Qxb6605259a
