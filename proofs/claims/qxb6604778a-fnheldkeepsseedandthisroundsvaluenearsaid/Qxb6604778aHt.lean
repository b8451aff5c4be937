/-
  THE WALK of 'zzToWalks'; the lowest positions; 'held' once the plan has run out.
-/
import Derived.Test.Qxb6604778aHm
namespace Go.Proofs.Qxb6604778a
open Go.RowKit Go.Sort

set_option maxRecDepth 100000 in
set_option maxHeartbeats 1000000 in
theorem to_any (g n cap : Nat) (F : Nat → Nat → Int) (hn : n ≤ 61) (w : World) (hg : g < w.heap.size) (hrow : Row w g 6 n F) :
    Calls Try.prog 18 #[.slice (some ⟨g, 0, none⟩) n cap] w fun e w' => e = .returned (.slice (some ⟨w.heap.size, 0, none⟩) n n) ∧ Row w' w.heap.size 6 n F ∧ w.heap.size < w'.heap.size ∧ Below w.heap.size w w' := by
  obtain ⟨i0, hi, hz0, hz1, hz2⟩ := info_parts Try.info46
  have hmk : ∀ w', (Instr.makeSlice 40 (.int .i64 (n : Int)) (.int .i64 (n : Int))).run Try.prog w' = .ok (.slice (some ⟨w'.heap.size, 0, none⟩) n n) (w'.alloc (.cells (madeCells #[.int .i64 0, .int .i64 0, .int .i64 0, .int .i64 0, .int .i64 0, .int .i64 0] (n * 6)) 46)) := fun w' => by
    have h := run_make (P := Try.prog) w' 40 46 i0 _ Try.underlying40 hi hz0 .i64 .i64 n n (by omega) (Int.le_refl _) (by rw [hz2]; omega) (by omega)
    rw [hz1, Int.toNat_natCast] at h
    exact h
  have hnil : ∀ (w : World) (a : Option Addr) (n c n' c' : Nat), (binOp .eql 25 (.slice a n c) (.slice none n' c')).run Try.prog w = .ok (.bool a.isNone) w := fun w a n c n' c' => Lib.run_eql_slice_nil w _ _ a n c n' c' Try.underlying25
  have HR : Hid (Row w g 6 n F) := hrow
  clear hrow
  go_enter Try.func18, Try.ntmps18
  go_wp2
  go_loopw [12] (fun i wr => ∃ k : Nat, k ≤ n ∧ i = .int .i64 k ∧ Row wr g 6 n F ∧ Row wr w.heap.size 6 n (fun i c => if i < k then F i c else 0) ∧ w.heap.size < wr.heap.size ∧ Below w.heap.size w wr) (fun i _ => n - (intOf i).toNat)
  case atStart => exact ⟨0, Nat.zero_le _, rfl, HR.out.alloc hg _, (row_made6 w n 46).congr (fun i _ c _ => by simp), by simp, (Below.refl _ _).alloc (Nat.le_refl _) _⟩
  case round =>
    clear HR hmk hnil
    obtain ⟨k, hk, rfl, hrow, hrow2, hs, hB⟩ := hrel
    by_cases hlt : k < n
    · have hltz : (k : Int) < (n : Int) := by omega
      have c0 := (hrow k hlt 0 (by omega)).1
      have c1 := (hrow k hlt 1 (by omega)).1
      have c2 := (hrow k hlt 2 (by omega)).1
      have c3 := (hrow k hlt 3 (by omega)).1
      have c4 := (hrow k hlt 4 (by omega)).1
      have c5 := (hrow k hlt 5 (by omega)).1
      rw [Nat.add_zero] at c0
      have HR : Hid _ := hrow
      have HR2 : Hid _ := hrow2
      have t0 := hrow2 k hlt 0 (by omega)
      have t1 := hrow2 k hlt 1 (by omega)
      have t2 := hrow2 k hlt 2 (by omega)
      have t3 := hrow2 k hlt 3 (by omega)
      have t4 := hrow2 k hlt 4 (by omega)
      have t5 := hrow2 k hlt 5 (by omega)
      rw [Nat.add_zero] at t0
      simp only [Nat.lt_irrefl, if_false] at t0 t1 t2 t3 t4 t5
      obtain ⟨t0, s0⟩ := t0
      obtain ⟨t1, s1⟩ := t1
      obtain ⟨t2, s2⟩ := t2
      obtain ⟨t3, s3⟩ := t3
      obtain ⟨t4, s4⟩ := t4
      obtain ⟨t5, s5⟩ := t5
      have hne : ¬ w.heap.size = g := by omega
      have hne1 : ¬ g = w.heap.size := by omega
      clear hrow hrow2
      go_wp2_with fail
      go_region_held3 (fun w' => w'.cell? ⟨g, k * 6, none⟩ = some (.int .i64 (F k 0)) ∧ w'.cell? ⟨g, k * 6 + 1, none⟩ = some (.int .i64 (F k 1)) ∧ w'.cell? ⟨g, k * 6 + 2, none⟩ = some (.int .i64 (F k 2)) ∧ w'.cell? ⟨g, k * 6 + 3, none⟩ = some (.int .i64 (F k 3)) ∧ w'.cell? ⟨g, k * 6 + 4, none⟩ = some (.int .i64 (F k 4)) ∧ w'.cell? ⟨g, k * 6 + 5, none⟩ = some (.int .i64 (F k 5))) (go_keep) (fail)
      go_wp2_with fail
      go_roundw
      case rel =>
        refine ⟨k + 1, by omega, by go_num, ?_, ?_, ?_, ?_⟩
        · exact Row.drew (Row.block HR.out (block_set6 wr w.heap.size k (F k) g hne1))
        · refine Row.drew (Row.congr (Row.set6 HR2.out hlt (F k)) ?_)
          intro i _ c _
          by_cases e : i = k
          · subst e; simp
          · simp only [e, if_false]
            by_cases h : i < k
            · rw [if_pos h, if_pos (by omega)]
            · rw [if_neg h, if_neg (by omega)]
        · simpa using hs
        · exact (below_set6 hB (Nat.le_refl _) (F k)).drew
      case measure => simp [intOf]; omega
    · obtain rfl : k = n := by omega
      go_wp2_with fail
      go_ret
      exact ⟨rfl, hrow2.congr (fun i hi c _ => by rw [if_pos hi]), hs, hB⟩

set_option maxHeartbeats 400000 in
theorem to_nil (w : World) : Calls Try.prog 18 #[.slice none 0 0] w fun e w' => e = .returned (.slice none 0 0) ∧ w' = w := by
  have hnil : ∀ (w : World) (a : Option Addr) (n c n' c' : Nat), (binOp .eql 25 (.slice a n c) (.slice none n' c')).run Try.prog w = .ok (.bool a.isNone) w := fun w a n c n' c' => Lib.run_eql_slice_nil w _ _ a n c n' c' Try.underlying25
  go_enter Try.func18, Try.ntmps18
  go_wp2
  go_ret
  exact ⟨rfl, rfl⟩


/-! ### the lowest position of each segment that round r falls in -/
def lowP (L : Nat) (r : Int) (j : Nat) : Int := pw L - (r / pw j + 1) * pw j
theorem lowP_bd {L : Nat} {r : Int} (hr0 : 0 ≤ r) (hr : r < pw L) {j : Nat} (hj : j ≤ L) : 0 ≤ (r / pw j + 1) * pw j ∧ (r / pw j + 1) * pw j ≤ pw L ∧ r + 1 ≤ (r / pw j + 1) * pw j := by
  have hp := pw_pos j
  have h1 := Int.lt_ediv_add_one_mul_self r (show 0 < pw j by omega)
  refine ⟨by omega, ?_, by omega⟩
  obtain ⟨q, hq⟩ := pw_dvd hj
  have h2 : r / pw j < q := Int.ediv_lt_of_lt_mul (by omega) (by rw [Int.mul_comm, ← hq]; exact hr)
  have h3 : (r / pw j + 1) * pw j ≤ q * pw j := Int.mul_le_mul_of_nonneg_right (by omega) (by omega)
  rw [Int.mul_comm q, ← hq] at h3
  exact h3
theorem div_bd2 {r : Int} (hr0 : 0 ≤ r) (j : Nat) : 0 ≤ r / pw j ∧ r / pw j ≤ r := by
  have hp := pw_pos j
  exact ⟨Int.ediv_nonneg hr0 (by omega), Int.ediv_le_self _ hr0⟩
def lowsL (L : Nat) (r : Int) (n : Nat) : List Int := (List.range n).map (lowP L r)
theorem lowsL_succ (L : Nat) (r : Int) (n : Nat) : lowsL L r (n + 1) = lowsL L r n ++ [lowP L r n] := by unfold lowsL; rw [List.range_succ, List.map_append]; rfl
theorem lowsL_len (L : Nat) (r : Int) (n : Nat) : (lowsL L r n).length = n := by simp [lowsL]
theorem heldAt_start {L : Nat} {r bu : Int} (hr0 : 0 ≤ r) (hr : r < pw L) : HeldAt L r bu 0 (lowsL L r (L + 1)) := by
  have m : ∀ j, j ≤ L → lowP L r j ∈ lowsL L r (L + 1) := fun j hj => by unfold lowsL; exact List.mem_map.2 ⟨j, List.mem_range.2 (by omega), rfl⟩
  refine ⟨?_, ?_, ?_⟩
  · have e : lowP L r L = 0 := by
      unfold lowP; rw [Int.ediv_eq_zero_of_lt hr0 hr]; omega
    rw [← e]; exact m L (Nat.le_refl _)
  · intro q hq
    unfold lowsL at hq
    obtain ⟨j, hj, rfl⟩ := List.mem_map.1 hq
    have := lowP_bd hr0 hr (show j ≤ L by have := List.mem_range.1 hj; omega)
    unfold lowP; omega
  · rw [if_pos rfl]
    have e : lowP L r 0 = pw L - 1 - r := by unfold lowP; rw [pw_zero]; simp; omega
    rw [← e]; exact m 0 (Nat.zero_le _)

theorem span_gb (ln bu : Int) (L : Nat) (hL : L ≤ 62) (w : World) :
    Calls Try.prog 19 #[.agg #[.int .i64 ln, .int .i64 L, .int .i64 bu]] w fun e w' => e = .returned (.int .i64 (pw L)) ∧ w.grownBy w' none :=
  (span_any ln bu L hL w).mono fun _ _ ⟨he, q, os, hw⟩ => ⟨he, by rw [hw]; exact ⟨rfl, rfl, rfl, (below_grow w q os).size, fun k hk _ => (below_grow w q os).block k hk⟩⟩

set_option maxHeartbeats 400000 in
theorem held_none (ln bu r : Int) (L : Nat) (hL : L ≤ 62) (hr : pw L ≤ r) (v : Option Addr) (n c : Nat) (w : World) :
    Calls Try.prog 17 #[.agg #[.int .i64 ln, .int .i64 L, .int .i64 bu], .int .i64 r, .slice v n c] w fun e w' => e = .returned (.slice none 0 0) ∧ Below w.heap.size w w' := by
  go_enter Try.func17, Try.ntmps17
  go_wp2_with (go_at_call 19; refine (span_below _ _ _ hL _).mono ?_; rintro e w1 ⟨rfl, hb⟩)
  go_ret
  exact ⟨rfl, ((Below.refl _ _).alloc (Nat.le_refl _) _).trans (hb.mono (by simp))⟩

end Go.Proofs.Qxb6604778a
