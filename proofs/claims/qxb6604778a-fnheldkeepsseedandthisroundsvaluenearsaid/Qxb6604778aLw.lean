/-
  THE WALKS of 'later', 'ZZLater' and the law's own count.
-/
import Derived.Test.Qxb6604778aRows
import Derived.Test.Qxb6604778aPlain
import Derived.WalkKit
import Derived.WalkSpells
import Derived.WalkLawsBesides
import Derived.Deep.QuietTactic
import Derived.BigQuiet
namespace Go.Proofs.Qxb6604778a
open Go.RowKit

theorem ret_int {k : IntKind} {a b : Int} (h : a = b) : Ending.returned (.int k a) = .returned (.int k b) := by rw [h]
theorem ret_bool {a b : Bool} (h : a = b) : Ending.returned (.bool a) = .returned (.bool b) := by rw [h]
theorem val_int {k : IntKind} {a b : Int} (h : a = b) : Value.int k a = .int k b := by rw [h]

theorem tmod_zero (b M : Int) (h : b % M = 0) : (b.tmod M == 0) = true := by
  simp [Int.tmod_eq_zero_of_dvd (Int.dvd_of_emod_eq_zero h)]
theorem tmod_nonzero (b M : Int) (h : ¬ b % M = 0) : (b.tmod M == 0) = false := by
  have : ¬ b.tmod M = 0 := fun e => h (Int.emod_eq_zero_of_dvd (Int.dvd_of_tmod_eq_zero e))
  simp [this]

set_option maxHeartbeats 400000 in
theorem needs_any (lv b due : Int) (w : World) (hb0 : -2305843009213693952 ≤ b) (hb1 : b ≤ 2305843009213693952) (hd0 : -2305843009213693952 ≤ due) (hd1 : due < 2305843009213693952)  :
    Calls Try.prog 9 #[.int .i64 lv, .int .i64 b, .int .i64 due] w fun e w' => e = .returned (.int .i64 (wrap64 (needN lv b due))) ∧ w' = w := by
  go_enter Try.func9, Try.ntmps9
  go_wp2
  go_loop [7, 8, 9] (fun n h j => ∃ k : Nat, k ≤ 61 ∧ j = .int .i64 (k + 2) ∧ h = .int .i64 (pw (k + 1)) ∧ n = .int .i64 (wrap64 (sumTo (needT lv b due) k))) (fun _ _ j => 100 - (intOf j).toNat)
  case atStart => exact ⟨0, by omega, rfl, rfl, val_int (by rw [sumTo_zero, wrap64_zero])⟩
  case round =>
    obtain ⟨k, hk, rfl, rfl, rfl⟩ := hrel
    have p1 := pw_pos (k + 1)
    by_cases hg : (k : Int) + 2 ≤ lv ∧ pw (k + 1) ≤ due - b
    · obtain ⟨g1, g2⟩ := hg
      have hk2 : k ≤ 60 := by
        rcases Nat.lt_or_ge k 61 with h | h
        · omega
        · have e := pw_mono (show 62 ≤ k + 1 by omega); rw [pw_62] at e; omega
      have p2 : pw (k + 1) ≤ 2305843009213693952 := by rw [← pw_61]; exact pw_mono (by omega)
      by_cases hz : b % (2 * pw (k + 1)) = 0
      · have t := tmod_zero _ _ hz
        have F : Hid (sumTo (needT lv b due) (k + 1) = sumTo (needT lv b due) k + (pw (k + 1) - 1)) := by
          refine (?_ : _ = _); rw [sumTo_succ, needT, if_pos ⟨g1, g2, by rw [pw_succ (k + 1)]; exact hz⟩]
        clear hz
        go_wp2
        go_round
        case rel => exact ⟨k + 1, by omega, by go_num, val_int (by rw [pw_succ (k + 1)]; omega), val_int (by rw [F.out, wrap64_wrap_add])⟩
        case measure => simp [intOf]; omega
      · have t := tmod_nonzero _ _ hz
        have F : Hid (sumTo (needT lv b due) (k + 1) = sumTo (needT lv b due) k) := by
          refine (?_ : _ = _); rw [sumTo_succ, needT, if_neg (by rintro ⟨_, _, h⟩; rw [pw_succ (k + 1)] at h; exact hz h)]; omega
        clear hz
        go_wp2
        go_round
        case rel => exact ⟨k + 1, by omega, by go_num, val_int (by rw [pw_succ (k + 1)]; omega), val_int (by rw [F.out])⟩
        case measure => simp [intOf]; omega
    · have hs := needN_stop lv b due k (by omega) hg
      have F : Hid (sumTo (needT lv b due) k = needN lv b due) := hs
      clear hs
      by_cases g1 : (k : Int) + 2 ≤ lv
      · have g2 : due - b < pw (k + 1) := by
          rcases Int.lt_or_le (due - b) (pw (k + 1)) with h | h
          · exact h
          · exact absurd ⟨g1, h⟩ hg
        clear hg
        go_wp2
        go_ret
        exact ⟨ret_int (by rw [F.out]), rfl⟩
      · clear hg
        go_wp2
        go_ret
        exact ⟨ret_int (by rw [F.out]), rfl⟩

set_option maxHeartbeats 400000 in
theorem later_any (ln lv bu r due : Int) (w : World) (hr0 : -4611686018427387904 ≤ r) (hr1 : r ≤ 4611686018427387904) (hd0 : -4611686018427387904 ≤ due) (hd1 : due ≤ 4611686018427387904) (hdr : due - r ≤ 4611686018427387904) :
    Calls Try.prog 13 #[.agg #[.int .i64 ln, .int .i64 lv, .int .i64 bu], .int .i64 r, .int .i64 due] w fun e w' => e = .returned (.int .i64 (wrap64 (lateN lv r due))) ∧ Below w.heap.size w w' := by
  go_enter Try.func13, Try.ntmps13
  go_wp2
  go_loopw [7, 8] (fun n j wr => ∃ k : Nat, k ≤ 61 ∧ j = .int .i64 (k + 2) ∧ n = .int .i64 (wrap64 (sumTo (lateT lv r due) k)) ∧ wr.cell? ⟨w.heap.size, 1, none⟩ = some (.int .i64 lv) ∧ Below w.heap.size w wr) (fun _ j _ => 100 - (intOf j).toNat)
  case atStart => exact ⟨0, by omega, rfl, val_int (by rw [sumTo_zero, wrap64_zero]), by simp, (Below.refl _ _).alloc (Nat.le_refl _) _⟩
  case round =>
    obtain ⟨k, hk, rfl, rfl, hc, hB⟩ := hrel
    have p1 := pw_pos (k + 1)
    have p2 : pw (k + 1) ≤ 4611686018427387904 := by rw [← pw_62]; exact pw_mono (by omega)
    have e1 : wrap64 ((2 : Int) ^ (k + 1)) = pw (k + 1) := IntWalk.wrap64_in _ ⟨by unfold pw at p1 p2; omega, by unfold pw at p1 p2; omega⟩
    have e1' : wrap64 ((2 : Int) ^ (k + 2 - 1)) = pw (k + 1) := e1
    have e2 : (2 : Int) ^ (k + 2) = pw (k + 2) := rfl
    have p4 : 4 ≤ pw (k + 2) := by have a := pw_mono (show 2 ≤ k + 2 by omega); have b : pw 2 = 4 := by decide
                                   omega
    by_cases hg : (k : Int) + 2 ≤ lv ∧ pw (k + 1) < due - r
    · obtain ⟨g1, g2⟩ := hg
      have hk2 : k ≤ 60 := by
        rcases Nat.lt_or_ge k 61 with h | h
        · omega
        · have e := pw_mono (show 62 ≤ k + 1 by omega); rw [pw_62] at e; omega
      have b1 := div_bd r (pw (k + 2)) (by omega) (by omega) (by omega)
      have b2 := div_bd (due - pw (k + 1)) (pw (k + 2)) (by omega) (by omega) (by omega)
      obtain ⟨b10, b11⟩ := b1
      obtain ⟨b20, b21⟩ := b2
      by_cases hq : r / pw (k + 2) + 1 ≤ (due - pw (k + 1)) / pw (k + 2)
      · have F : Hid (sumTo (lateT lv r due) (k + 1) = sumTo (lateT lv r due) k + ((due - pw (k + 1)) / pw (k + 2) - (r / pw (k + 2) + 1) + 1) * (pw (k + 1) - 1)) := by
          refine (?_ : _ = _); rw [sumTo_succ, lateT, if_pos ⟨g1, g2, hq⟩]
        go_wp2
        go_quiet (fail)
        go_wp2
        go_roundw
        case rel => exact ⟨k + 1, by omega, by go_num, val_int (by rw [F.out, wrap64_wrap_add, wrap64_add_wrap]), by simp [hc], below_drewN hB _⟩
        case measure => simp [intOf]; omega
      · have F : Hid (sumTo (lateT lv r due) (k + 1) = sumTo (lateT lv r due) k) := by
          refine (?_ : _ = _); rw [sumTo_succ, lateT, if_neg (fun h => hq h.2.2)]; omega
        go_wp2
        go_quiet (fail)
        go_wp2
        go_roundw
        case rel => exact ⟨k + 1, by omega, by go_num, val_int (by rw [F.out]), by simp [hc], below_drewN hB _⟩
        case measure => simp [intOf]; omega
    · have F : Hid (sumTo (lateT lv r due) k = lateN lv r due) := lateN_stop lv r due k (by omega) hg
      by_cases g1 : (k : Int) + 2 ≤ lv
      · have g2 : due - r ≤ pw (k + 1) := by
          rcases Int.lt_or_le (pw (k + 1)) (due - r) with h | h
          · exact absurd ⟨g1, h⟩ hg
          · exact h
        clear hg
        go_wp2
        go_ret
        exact ⟨ret_int (by rw [F.out]), hB⟩
      · clear hg
        go_wp2
        go_ret
        exact ⟨ret_int (by rw [F.out]), hB⟩

set_option maxHeartbeats 400000 in
theorem zzlater_any (ln lv bu r due : Int) (w : World) (hr0 : -4611686018427387904 ≤ r) (hr1 : r ≤ 4611686018427387904) (hd0 : -4611686018427387904 ≤ due) (hd1 : due ≤ 4611686018427387904) (hdr : due - r ≤ 4611686018427387904) :
    Calls Try.prog 7 #[.int .i64 ln, .int .i64 lv, .int .i64 bu, .int .i64 r, .int .i64 due] w fun e w' => e = .returned (.int .i64 (wrap64 (lateN lv r due))) ∧ Below w.heap.size w w' := by
  go_enter Try.func7, Try.ntmps7
  go_wp2_with (go_at_call 13; refine (later_any _ _ _ _ _ _ hr0 hr1 hd0 hd1 hdr).mono ?_; rintro e w' ⟨rfl, hB⟩)
  go_ret
  exact ⟨rfl, hB⟩

set_option maxHeartbeats 400000 in
theorem rounds_any (lv r due : Int) (w : World) (hr0 : -2305843009213693951 ≤ r) (hr1 : r ≤ 2305843009213693951) (hd0 : -2305843009213693951 ≤ due) (hd1 : due ≤ 2305843009213693951) :
    Calls Try.prog 8 #[.int .i64 lv, .int .i64 r, .int .i64 due] w fun e w' => e = .returned (.int .i64 (wrap64 (lateN lv r due))) ∧ w' = w := by
  have F : Hid (roundsN lv r due (due - r).toNat = lateN lv r due) := roundsN_all lv r due
  go_enter Try.func8, Try.ntmps8
  go_wp2
  go_loop [7, 8] (fun n b => ∃ k : Nat, k ≤ (due - r).toNat ∧ b = .int .i64 (r + 1 + k) ∧ n = .int .i64 (wrap64 (roundsN lv r due k))) (fun _ b => (due + 1 - intOf b).toNat)
  case atStart => exact ⟨0, by omega, val_int (by omega), val_int (by rw [roundsN, sumTo_zero, wrap64_zero])⟩
  case round =>
    obtain ⟨k, hk, rfl, rfl⟩ := hrel
    by_cases hlt : r + 1 + k ≤ due
    · go_wp2_with (go_at_call 9; refine (needs_any _ _ _ _ (by omega) (by omega) (by omega) (by omega)).mono ?_; rintro e w' ⟨rfl, rfl⟩)
      go_round
      case rel => exact ⟨k + 1, by omega, val_int (by omega), val_int (by rw [wrap64_wrap_add, wrap64_add_wrap]; rfl)⟩
      case measure => simp [intOf]; omega
    · go_wp2
      go_ret
      exact ⟨ret_int (by rw [← F.out]; congr; omega), rfl⟩
end Go.Proofs.Qxb6604778a
