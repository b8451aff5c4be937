/-
  THE PLAIN MATHEMATICS of 'later' and of the law's own count: no Go in sight.
-/
import Derived.RowKit
namespace Go.Proofs.Qxb6604778a
open Go.RowKit

/-! ### powers of two, under a name of their own -/
def pw (k : Nat) : Int := 2 ^ k
theorem pw_zero : pw 0 = 1 := rfl
theorem pw_succ (k : Nat) : pw (k + 1) = 2 * pw k := by unfold pw; rw [Int.pow_succ]; omega
theorem pw_pos (k : Nat) : 1 ≤ pw k := by
  induction k with
  | zero => decide
  | succ n ih => rw [pw_succ]; omega
theorem pw_mono {a b : Nat} (h : a ≤ b) : pw a ≤ pw b := by
  induction h with
  | refl => omega
  | @step m _ ih => have h1 : pw m.succ = 2 * pw m := pw_succ m; have h2 := pw_pos m; omega
theorem pw_lt {a b : Nat} (h : a < b) : 2 * pw a ≤ pw b := by rw [← pw_succ]; exact pw_mono h
theorem pw_61 : pw 61 = 2305843009213693952 := by decide
theorem pw_62 : pw 62 = 4611686018427387904 := by decide
theorem pw_add (a b : Nat) : pw (a + b) = pw a * pw b := by unfold pw; exact Int.pow_add 2 a b
theorem pw_ge (k : Nat) : (k : Int) + 1 ≤ pw k := by
  induction k with
  | zero => decide
  | succ n ih => rw [pw_succ]; omega

/-! ### wraps -/
theorem wrap64_wrap_add (a b : Int) : wrap64 (wrap64 a + b) = wrap64 (a + b) := by unfold wrap64; omega
theorem wrap64_add_wrap (a b : Int) : wrap64 (a + wrap64 b) = wrap64 (a + b) := by unfold wrap64; omega

theorem wrap64_zero : wrap64 0 = 0 := by unfold wrap64; omega
theorem wrap64_mul_wrap (a b : Int) : wrap64 (wrap64 a * b) = wrap64 (a * b) := by
  have e : wrap64 a = a - 18446744073709551616 * ((a + 9223372036854775808) / 18446744073709551616) := by unfold wrap64; omega
  rw [e, Int.sub_mul, Int.mul_assoc]
  generalize ((a + 9223372036854775808) / 18446744073709551616) * b = q
  unfold wrap64; omega

/-! ### a finite sum -/
def sumTo (f : Nat → Int) : Nat → Int
  | 0 => 0
  | n + 1 => sumTo f n + f n
theorem sumTo_zero (f : Nat → Int) : sumTo f 0 = 0 := rfl
theorem sumTo_succ (f : Nat → Int) (n : Nat) : sumTo f (n + 1) = sumTo f n + f n := rfl
theorem sumTo_stop (f : Nat → Int) (k n : Nat) (h : ∀ i, k ≤ i → f i = 0) (hk : k ≤ n) : sumTo f n = sumTo f k := by
  induction hk with
  | refl => rfl
  | step hm ih => rw [sumTo_succ, ih, h _ hm]; omega
theorem sumTo_add (f g h : Nat → Int) (n : Nat) (e : ∀ i, f i = g i + h i) : sumTo f n = sumTo g n + sumTo h n := by
  induction n with
  | zero => rfl
  | succ m ih => rw [sumTo_succ, sumTo_succ, sumTo_succ, ih, e]; omega
theorem sumTo_none (f : Nat → Int) (n : Nat) (h : ∀ i, f i = 0) : sumTo f n = 0 := sumTo_stop f 0 n (fun i _ => h i) (Nat.zero_le _)

/-! ### what one level adds -/
def needT (lv b due : Int) (k : Nat) : Int :=
  if (k : Int) + 2 ≤ lv ∧ pw (k + 1) ≤ due - b ∧ b % pw (k + 2) = 0 then pw (k + 1) - 1 else 0
def lateT (lv r due : Int) (k : Nat) : Int :=
  if (k : Int) + 2 ≤ lv ∧ pw (k + 1) < due - r ∧ r / pw (k + 2) + 1 ≤ (due - pw (k + 1)) / pw (k + 2)
  then ((due - pw (k + 1)) / pw (k + 2) - (r / pw (k + 2) + 1) + 1) * (pw (k + 1) - 1) else 0
def needN (lv b due : Int) : Int := sumTo (needT lv b due) 62
def lateN (lv r due : Int) : Int := sumTo (lateT lv r due) 62

theorem needT_none (lv b due : Int) (k i : Nat) (hi : k ≤ i) (h : ¬ ((k : Int) + 2 ≤ lv ∧ pw (k + 1) ≤ due - b)) : needT lv b due i = 0 := by
  unfold needT; rw [if_neg]
  rintro ⟨h1, h2, _⟩
  have := pw_mono (show k + 1 ≤ i + 1 by omega)
  exact h ⟨by omega, by omega⟩
theorem lateT_none (lv r due : Int) (k i : Nat) (hi : k ≤ i) (h : ¬ ((k : Int) + 2 ≤ lv ∧ pw (k + 1) < due - r)) : lateT lv r due i = 0 := by
  unfold lateT; rw [if_neg]
  rintro ⟨h1, h2, _⟩
  have := pw_mono (show k + 1 ≤ i + 1 by omega)
  exact h ⟨by omega, by omega⟩
theorem needN_stop (lv b due : Int) (k : Nat) (hk : k ≤ 62) (h : ¬ ((k : Int) + 2 ≤ lv ∧ pw (k + 1) ≤ due - b)) : sumTo (needT lv b due) k = needN lv b due :=
  (sumTo_stop _ k 62 (fun i hi => needT_none lv b due k i hi h) hk).symm
theorem lateN_stop (lv r due : Int) (k : Nat) (hk : k ≤ 62) (h : ¬ ((k : Int) + 2 ≤ lv ∧ pw (k + 1) < due - r)) : sumTo (lateT lv r due) k = lateN lv r due :=
  (sumTo_stop _ k 62 (fun i hi => lateT_none lv r due k i hi h) hk).symm

/-- one step of the quotient -/
theorem div_step (r M : Int) (hM : 1 ≤ M) : (r + 1) / M = r / M + (if (r + 1) % M = 0 then 1 else 0) := by
  have e := Int.mul_ediv_add_emod r M
  have a0 := Int.emod_nonneg r (show M ≠ 0 by omega)
  have a1 := Int.emod_lt_of_pos r (show 0 < M by omega)
  by_cases h : r % M + 1 = M
  · have : r + 1 = (r / M + 1) * M := by rw [Int.add_mul, Int.mul_comm (r / M) M]; omega
    rw [this, Int.mul_ediv_cancel _ (by omega), if_pos (Int.mul_emod_left _ _)]
  · have e2 : r + 1 = (r % M + 1) + (r / M) * M := by rw [Int.mul_comm (r / M) M]; omega
    have d : (r + 1) / M = r / M := by
      rw [e2, Int.add_mul_ediv_right _ _ (by omega), Int.ediv_eq_zero_of_lt (by omega) (by omega)]; omega
    have m : (r + 1) % M = r % M + 1 := by
      rw [e2, Int.add_mul_emod_self_right, Int.emod_eq_of_lt (by omega) (by omega)]
    rw [d, m, if_neg (by omega)]; omega
theorem div_le_iff (x M q : Int) (hM : 1 ≤ M) : q ≤ x / M ↔ q * M ≤ x := Int.le_ediv_iff_mul_le (by omega)

theorem div_bd (x M : Int) (hM : 2 ≤ M) (h0 : -9223372036854775808 ≤ x) (h1 : x ≤ 9223372036854775807) : -4611686018427387904 ≤ x / M ∧ x / M ≤ 4611686018427387903 := by
  constructor
  · rw [div_le_iff x M _ (by omega)]; omega
  · have := Int.ediv_mul_le x (show M ≠ 0 by omega)
    rcases Int.lt_or_le 4611686018427387903 (x / M) with h | h
    · have h2 : 4611686018427387904 * M ≤ x / M * M := Int.mul_le_mul_of_nonneg_right (by omega) (by omega)
      omega
    · exact h
theorem lateT_step (lv r due : Int) (k : Nat) : lateT lv r due k = lateT lv (r + 1) due k + needT lv (r + 1) due k := by
  have hM := pw_pos (k + 2)
  have hH := pw_pos (k + 1)
  have e2 := pw_succ (k + 1)
  have ds := div_step r (pw (k + 2)) hM
  have er := Int.mul_ediv_add_emod (r + 1) (pw (k + 2))
  have r0 := Int.emod_nonneg (r + 1) (show pw (k + 2) ≠ 0 by omega)
  unfold lateT needT
  generalize hL : (due - pw (k + 1)) / pw (k + 2) = L
  have dl := div_le_iff (due - pw (k + 1)) (pw (k + 2)) ((r + 1) / pw (k + 2)) hM
  have dl1 := div_le_iff (due - pw (k + 1)) (pw (k + 2)) ((r + 1) / pw (k + 2) + 1) hM
  rw [hL] at dl dl1
  rw [Int.add_mul] at dl1
  rw [Int.mul_comm ((r + 1) / pw (k + 2))] at dl dl1
  have r1 := Int.emod_lt_of_pos (r + 1) (show 0 < pw (k + 2) by omega)
  by_cases hz : (r + 1) % pw (k + 2) = 0
  · rw [if_pos hz] at ds
    by_cases h1 : (k : Int) + 2 ≤ lv ∧ pw (k + 1) ≤ due - (r + 1)
    · obtain ⟨ha, hb⟩ := h1
      rw [if_pos (show (k : Int) + 2 ≤ lv ∧ pw (k + 1) ≤ due - (r + 1) ∧ (r + 1) % pw (k + 2) = 0 from ⟨ha, hb, hz⟩)]
      have hq : (r + 1) / pw (k + 2) ≤ L := dl.2 (by omega)
      rw [if_pos (show (k : Int) + 2 ≤ lv ∧ pw (k + 1) < due - r ∧ r / pw (k + 2) + 1 ≤ L from ⟨ha, by omega, by omega⟩)]
      by_cases h2 : pw (k + 1) < due - (r + 1) ∧ (r + 1) / pw (k + 2) + 1 ≤ L
      · rw [if_pos ⟨ha, h2.1, h2.2⟩, show L - (r / pw (k + 2) + 1) + 1 = (L - ((r + 1) / pw (k + 2) + 1) + 1) + 1 by omega, Int.add_mul]; omega
      · rw [if_neg (fun h => h2 ⟨h.2.1, h.2.2⟩)]
        have hlt : ¬ (r + 1) / pw (k + 2) + 1 ≤ L := by
          intro hc
          have := dl1.1 hc
          exact h2 ⟨by omega, hc⟩
        rw [show L - (r / pw (k + 2) + 1) + 1 = 1 by omega, Int.one_mul]; omega
    · rw [if_neg (show ¬ ((k : Int) + 2 ≤ lv ∧ pw (k + 1) < due - r ∧ r / pw (k + 2) + 1 ≤ L) from fun h => h1 ⟨h.1, by omega⟩),
        if_neg (show ¬ ((k : Int) + 2 ≤ lv ∧ pw (k + 1) < due - (r + 1) ∧ (r + 1) / pw (k + 2) + 1 ≤ L) from fun h => h1 ⟨h.1, by omega⟩),
        if_neg (fun h => h1 ⟨h.1, h.2.1⟩)]; rfl
  · rw [if_neg hz] at ds
    rw [if_neg (show ¬ ((k : Int) + 2 ≤ lv ∧ pw (k + 1) ≤ due - (r + 1) ∧ (r + 1) % pw (k + 2) = 0) from fun h => hz h.2.2)]
    rw [show (r + 1) / pw (k + 2) = r / pw (k + 2) by omega] at *
    by_cases h2 : (k : Int) + 2 ≤ lv ∧ r / pw (k + 2) + 1 ≤ L
    · have := dl1.1 h2.2
      rw [if_pos ⟨h2.1, by omega, h2.2⟩, if_pos ⟨h2.1, by omega, h2.2⟩]; omega
    · rw [if_neg (fun h => h2 ⟨h.1, h.2.2⟩), if_neg (fun h => h2 ⟨h.1, h.2.2⟩)]; rfl

theorem lateN_step (lv r due : Int) : lateN lv r due = lateN lv (r + 1) due + needN lv (r + 1) due :=
  sumTo_add _ _ _ 62 (fun i => lateT_step lv r due i)
theorem lateN_near (lv r due : Int) (h : due - r ≤ 2) : lateN lv r due = 0 :=
  sumTo_none _ 62 (fun i => lateT_none lv r due 0 i (Nat.zero_le _) (by rintro ⟨_, h2⟩; rw [pw_succ, pw_zero] at h2; omega))

/-! ### the sum over the rounds -/
def roundsN (lv r due : Int) (n : Nat) : Int := sumTo (fun i => needN lv (r + 1 + i) due) n
theorem roundsN_late (lv r due : Int) : ∀ n : Nat, lateN lv r due = lateN lv (r + n) due + roundsN lv r due n
  | 0 => by show _ = lateN lv (r + ((0 : Nat) : Int)) due + 0; simp
  | n + 1 => by
    have ih := roundsN_late lv r due n
    have s := lateN_step lv (r + n) due
    have e1 : roundsN lv r due (n + 1) = roundsN lv r due n + needN lv (r + 1 + n) due := rfl
    have e2 : r + ((n + 1 : Nat) : Int) = r + n + 1 := by omega
    have e3 : r + 1 + (n : Int) = r + n + 1 := by omega
    rw [e1, e2, e3]; omega
theorem roundsN_all (lv r due : Int) : roundsN lv r due (due - r).toNat = lateN lv r due := by
  have h := roundsN_late lv r due (due - r).toNat
  have z := lateN_near lv (r + ((due - r).toNat : Int)) due (by omega)
  omega
end Go.Proofs.Qxb6604778a
