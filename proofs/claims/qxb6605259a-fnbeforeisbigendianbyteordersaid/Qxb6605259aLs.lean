/-
  THE WALK of 'zzBytesLess'.
-/
import Derived.Test.Qxb6605259aBw
namespace Go.Proofs.Qxb6605259a
open Go.RowKit

/-- the first place where the two rows part decides. -/
def lexSays (X Y : Nat → Int) (b : Bool) : Prop :=
  (∃ k, k < 16 ∧ (∀ j, j < k → X j = Y j) ∧ X k ≠ Y k ∧ b = decide (X k < Y k)) ∨ ((∀ j, j < 16 → X j = Y j) ∧ b = false)

set_option maxHeartbeats 1000000 in
theorem less_any (X Y : Nat → Int) (w : World) :
    Calls Try.prog 7 #[.agg #[.int .u8 (X 0), .int .u8 (X 1), .int .u8 (X 2), .int .u8 (X 3), .int .u8 (X 4), .int .u8 (X 5), .int .u8 (X 6), .int .u8 (X 7), .int .u8 (X 8), .int .u8 (X 9), .int .u8 (X 10), .int .u8 (X 11), .int .u8 (X 12), .int .u8 (X 13), .int .u8 (X 14), .int .u8 (X 15)], .agg #[.int .u8 (Y 0), .int .u8 (Y 1), .int .u8 (Y 2), .int .u8 (Y 3), .int .u8 (Y 4), .int .u8 (Y 5), .int .u8 (Y 6), .int .u8 (Y 7), .int .u8 (Y 8), .int .u8 (Y 9), .int .u8 (Y 10), .int .u8 (Y 11), .int .u8 (Y 12), .int .u8 (Y 13), .int .u8 (Y 14), .int .u8 (Y 15)]] w fun e w' => (∃ b, e = .returned (.bool b) ∧ lexSays X Y b) ∧ Below w.heap.size w w' := by
  go_enter Try.func7, Try.ntmps7
  go_wp2
  go_loopw [5] (fun i wr => ∃ k : Nat, k ≤ 16 ∧ i = .int .i64 k ∧ (∀ j, j < k → X j = Y j) ∧ (∀ j, j < 16 → wr.cell? ⟨w.heap.size, j, none⟩ = some (.int .u8 (X j))) ∧ (∀ j, j < 16 → wr.cell? ⟨w.heap.size + 1, j, none⟩ = some (.int .u8 (Y j))) ∧ Below w.heap.size w wr) (fun i _ => 16 - (intOf i).toNat)
  case atStart =>
    refine ⟨0, by omega, rfl, fun j h => absurd h (by omega), ?_, ?_, ((Below.refl _ _).alloc (Nat.le_refl _) _).alloc (by simp) _⟩
    · intro j hj
      match j, hj with
      | 0, _ => simp
      | 1, _ => simp
      | 2, _ => simp
      | 3, _ => simp
      | 4, _ => simp
      | 5, _ => simp
      | 6, _ => simp
      | 7, _ => simp
      | 8, _ => simp
      | 9, _ => simp
      | 10, _ => simp
      | 11, _ => simp
      | 12, _ => simp
      | 13, _ => simp
      | 14, _ => simp
      | 15, _ => simp
      | j + 16, hj => omega
    · intro j hj
      match j, hj with
      | 0, _ => simp
      | 1, _ => simp
      | 2, _ => simp
      | 3, _ => simp
      | 4, _ => simp
      | 5, _ => simp
      | 6, _ => simp
      | 7, _ => simp
      | 8, _ => simp
      | 9, _ => simp
      | 10, _ => simp
      | 11, _ => simp
      | 12, _ => simp
      | 13, _ => simp
      | 14, _ => simp
      | 15, _ => simp
      | j + 16, hj => omega
  case round =>
    obtain ⟨k, hk, rfl, he, hcx, hcy, hB⟩ := hrel
    have HE : Hid (∀ j, j < k → X j = Y j) := he
    have HX : Hid (∀ j, j < 16 → wr.cell? ⟨w.heap.size, j, none⟩ = some (.int .u8 (X j))) := hcx
    have HY : Hid (∀ j, j < 16 → wr.cell? ⟨w.heap.size + 1, j, none⟩ = some (.int .u8 (Y j))) := hcy
    by_cases hlt : k < 16
    · have cx := hcx k hlt
      have cy := hcy k hlt
      clear hcx hcy he
      have hlt' : (k : Int) < 16 := by omega
      by_cases hq : X k = Y k
      · have tq : (X k != Y k) = false := by simp [hq]
        have HQ : Hid (X k = Y k) := hq
        clear hq
        go_wp2
        go_quiet (fail)
        go_wp2
        go_roundw
        case rel => exact ⟨k + 1, by omega, by go_num, fun j hj => (Nat.lt_succ_iff_lt_or_eq.1 hj).elim (fun h => HE.out j h) (fun h => by rw [h]; exact HQ.out), fun j hj => by simpa using HX.out j hj, fun j hj => by simpa using HY.out j hj, below_drewN hB _⟩
        case measure => simp [intOf]; omega
      · have tq : (X k != Y k) = true := by simp [hq]
        go_wp2
        go_quiet (fail)
        go_wp2
        go_quiet (fail)
        go_wp2
        go_ret
        exact ⟨⟨_, rfl, .inl ⟨k, hlt, HE.out, hq, rfl⟩⟩, below_drewN (below_drewN hB _) _⟩
    · obtain rfl : k = 16 := by omega
      clear hcx hcy he
      go_wp2
      go_ret
      exact ⟨⟨_, rfl, .inr ⟨HE.out, rfl⟩⟩, hB⟩
end Go.Proofs.Qxb6605259a
