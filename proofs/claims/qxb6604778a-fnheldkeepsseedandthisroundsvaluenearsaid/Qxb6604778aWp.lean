/-
  THE PLAIN MATHEMATICS of the open walks: no Go in sight.
-/
import Derived.Test.Qxb6604778aPlain
namespace Go.Proofs.Qxb6604778a
open Go.RowKit

/-- the walk of level k + 2 that round r falls in: where it begins, when it is due, its positions. -/
def bgn (r : Int) (k : Nat) : Int := r / pw (k + 2) * pw (k + 2)
def duo (r : Int) (k : Nat) : Int := bgn r k + pw (k + 1)
def lowW (L : Nat) (r : Int) (k : Nat) : Int := pw L - bgn r k - pw (k + 2)
def topW (L : Nat) (r : Int) (k : Nat) : Int := lowW L r k + pw (k + 1) - 1

theorem bgn_le (r : Int) (k : Nat) : bgn r k ≤ r := Int.ediv_mul_le r (by have := pw_pos (k + 2); omega)
theorem lt_bgn (r : Int) (k : Nat) : r < bgn r k + pw (k + 2) := by
  have h := Int.lt_ediv_add_one_mul_self r (show 0 < pw (k + 2) by have := pw_pos (k + 2); omega)
  rw [Int.add_mul, Int.one_mul] at h; exact h
theorem bgn_nonneg {r : Int} (h : 0 ≤ r) (k : Nat) : 0 ≤ bgn r k :=
  Int.mul_nonneg (Int.ediv_nonneg h (by have := pw_pos (k + 2); omega)) (by have := pw_pos (k + 2); omega)
theorem pw_dvd {i k : Nat} (h : i ≤ k) : pw i ∣ pw k := by
  obtain ⟨t, rfl⟩ := Nat.exists_eq_add_of_le h
  rw [pw_add]; exact Int.dvd_mul_right _ _
theorem bgn_dvd (r : Int) {i k : Nat} (h : i ≤ k) : pw (i + 2) ∣ bgn r k :=
  Int.dvd_trans (pw_dvd (show i + 2 ≤ k + 2 by omega)) (Int.dvd_mul_left _ _)
/-- below a multiple, rounded down: still room for one more. -/
theorem bgn_room (r D : Int) (i : Nat) (hD : pw (i + 2) ∣ D) (h : r < D) : bgn r i + pw (i + 2) ≤ D := by
  obtain ⟨q, rfl⟩ := hD
  have hp := pw_pos (i + 2)
  have h1 : r / pw (i + 2) < q := Int.ediv_lt_of_lt_mul (by omega) (by rw [Int.mul_comm]; exact h)
  have h2 : (r / pw (i + 2) + 1) * pw (i + 2) ≤ q * pw (i + 2) := Int.mul_le_mul_of_nonneg_right (by omega) (by omega)
  rw [Int.add_mul, Int.one_mul] at h2
  unfold bgn; rw [Int.mul_comm (pw (i + 2)) q]; exact h2
theorem duo_dvd (r : Int) {i k : Nat} (h : i < k) : pw (i + 2) ∣ duo r k :=
  Int.dvd_add (bgn_dvd r (by omega)) (pw_dvd (by omega))
theorem duo_lt (r : Int) {i k : Nat} (h : i < k) (ho : r < duo r k) : duo r i < duo r k := by
  have a := bgn_room r (duo r k) i (duo_dvd r h) ho
  have b : pw (i + 2) = 2 * pw (i + 1) := pw_succ (i + 1)
  have c := pw_pos (i + 1)
  unfold duo at *; omega
theorem bgn_self (r : Int) (i : Nat) (h : pw (i + 2) ∣ r) : bgn r i = r := Int.ediv_mul_cancel h
theorem bgn_due (r : Int) {i k : Nat} (h : i < k) (hd : r = duo r k) : bgn r i = r := bgn_self r i (by have := duo_dvd r h; rwa [← hd] at this)
theorem duo_due (r : Int) {i k : Nat} (h : i < k) (hd : r = duo r k) : r < duo r i := by
  have a := bgn_due r h hd
  have c := pw_pos (i + 1)
  unfold duo; omega
theorem duo_inj_lt (r : Int) {i k : Nat} (h : i < k) : duo r i ≠ duo r k := by
  intro e
  have d := duo_dvd r h
  rw [← e] at d
  have d2 : pw (i + 2) ∣ pw (i + 1) := (Int.dvd_add_right (bgn_dvd r (Nat.le_refl i))).1 d
  have := Int.le_of_dvd (by have := pw_pos (i + 1); omega) d2
  have b : pw (i + 2) = 2 * pw (i + 1) := pw_succ (i + 1)
  have c := pw_pos (i + 1)
  omega
theorem duo_inj (r : Int) {i k : Nat} (e : duo r i = duo r k) : i = k := by
  rcases Nat.lt_trichotomy i k with h | h | h
  · exact absurd e (duo_inj_lt r h)
  · exact h
  · exact absurd e.symm (duo_inj_lt r h)
theorem due_unique (r : Int) {i k : Nat} (hi : r = duo r i) (hk : r = duo r k) : i = k := duo_inj r (hi.symm.trans hk)
theorem bgn_lt_due (r : Int) (k : Nat) (h : r = duo r k) : bgn r k < r := by
  have c := pw_pos (k + 1)
  unfold duo at h; omega
theorem pw_le_span {k L : Nat} (h : k + 2 ≤ L) : pw (k + 2) ≤ pw L := pw_mono h
/-- a segment of a level within the plan ends within the plan. -/
theorem bgn_span {r : Int} {k L : Nat} (h : k + 2 ≤ L) (hr : r < pw L) : bgn r k + pw (k + 2) ≤ pw L := bgn_room r (pw L) k (pw_dvd h) hr
theorem top_sub_low (L : Nat) (r : Int) (k : Nat) : topW L r k - lowW L r k = pw (k + 1) - 1 := by unfold topW; omega
theorem top_eq (L : Nat) (r : Int) (k : Nat) : topW L r k = pw L - 1 - duo r k := by
  have b : pw (k + 2) = 2 * pw (k + 1) := pw_succ (k + 1)
  unfold topW lowW duo; omega

/-! ### the open walks of a round, in the order in which they are met, and in the order of their due -/
def openL (r : Int) (n : Nat) : List Nat := (List.range n).filter fun k => decide (r ≤ duo r k)
def nowL (r : Int) (n : Nat) : List Nat := (List.range n).filter fun k => decide (r = duo r k)
def restL (r : Int) (n : Nat) : List Nat := (List.range n).filter fun k => decide (r < duo r k)
def sorL (r : Int) (n : Nat) : List Nat := nowL r n ++ restL r n

theorem range_snoc (n : Nat) : List.range (n + 1) = List.range n ++ [n] := List.range_succ
theorem openL_yes {r : Int} {n : Nat} (h : r ≤ duo r n) : openL r (n + 1) = openL r n ++ [n] := by
  unfold openL; rw [range_snoc, List.filter_append]; simp [h]
theorem openL_no {r : Int} {n : Nat} (h : ¬ r ≤ duo r n) : openL r (n + 1) = openL r n := by
  unfold openL; rw [range_snoc, List.filter_append]; simp [h]
theorem mem_openL {r : Int} {n k : Nat} : k ∈ openL r n ↔ k < n ∧ r ≤ duo r k := by unfold openL; simp
theorem mem_nowL {r : Int} {n k : Nat} : k ∈ nowL r n ↔ k < n ∧ r = duo r k := by unfold nowL; simp
theorem mem_restL {r : Int} {n k : Nat} : k ∈ restL r n ↔ k < n ∧ r < duo r k := by unfold restL; simp
theorem mem_sorL {r : Int} {n k : Nat} : k ∈ sorL r n ↔ k < n ∧ r ≤ duo r k := by
  unfold sorL; rw [List.mem_append, mem_nowL, mem_restL]; omega
theorem openL_length (r : Int) (n : Nat) : (openL r n).length ≤ n := by
  have := List.length_filter_le (fun k => decide (r ≤ duo r k)) (List.range n); simpa [openL] using this

theorem sorL_perm (r : Int) : ∀ n, (sorL r n).Perm (openL r n)
  | 0 => by simp [sorL, nowL, restL, openL]
  | n + 1 => by
    have ih := sorL_perm r n
    unfold sorL at *
    rcases Int.lt_trichotomy r (duo r n) with h | h | h
    · have e1 : nowL r (n + 1) = nowL r n := by unfold nowL; rw [range_snoc, List.filter_append]; simp; omega
      have e2 : restL r (n + 1) = restL r n ++ [n] := by unfold restL; rw [range_snoc, List.filter_append]; simp [h]
      rw [e1, e2, openL_yes (by omega), ← List.append_assoc]
      exact ih.append_right _
    · have e1 : nowL r (n + 1) = nowL r n ++ [n] := by unfold nowL; rw [range_snoc, List.filter_append]; simp [← h]
      have e2 : restL r (n + 1) = restL r n := by unfold restL; rw [range_snoc, List.filter_append]; simp; omega
      rw [e1, e2, openL_yes (by omega)]
      refine List.Perm.trans ?_ (ih.append_right _)
      rw [List.append_assoc, List.append_assoc]
      exact List.Perm.append_left _ List.perm_append_comm
    · have e1 : nowL r (n + 1) = nowL r n := by unfold nowL; rw [range_snoc, List.filter_append]; simp; omega
      have e2 : restL r (n + 1) = restL r n := by unfold restL; rw [range_snoc, List.filter_append]; simp; omega
      rw [e1, e2, openL_no (by omega)]; exact ih

theorem nowL_le_one (r : Int) (n : Nat) : nowL r n = [] ∨ ∃ k, nowL r n = [k] := by
  have hp : (nowL r n).Pairwise (· < ·) := List.Pairwise.filter _ List.pairwise_lt_range
  match h : nowL r n with
  | [] => exact .inl rfl
  | [k] => exact .inr ⟨k, rfl⟩
  | a :: b :: l =>
    rw [h] at hp
    have ha : a ∈ nowL r n := by rw [h]; simp
    have hb : b ∈ nowL r n := by rw [h]; simp
    have e := due_unique r (mem_nowL.1 ha).2 (mem_nowL.1 hb).2
    simp at hp
    omega
theorem restL_sorted (r : Int) (n : Nat) : (restL r n).Pairwise (fun i k => duo r i < duo r k) := by
  have hp : (restL r n).Pairwise (· < ·) := List.Pairwise.filter _ List.pairwise_lt_range
  refine List.Pairwise.imp_of_mem ?_ hp
  intro a b _ hb hab
  exact duo_lt r hab (mem_restL.1 hb).2
theorem sorL_sorted (r : Int) (n : Nat) : (sorL r n).Pairwise (fun i k => duo r i < duo r k) := by
  unfold sorL
  rw [List.pairwise_append]
  refine ⟨?_, restL_sorted r n, ?_⟩
  · rcases nowL_le_one r n with h | ⟨k, h⟩ <;> rw [h] <;> simp
  · intro a ha b hb
    have h1 := (mem_nowL.1 ha).2
    have h2 := (mem_restL.1 hb).2
    omega

/-- two lists that are permutations of one another and both ascend strictly by one key are one list. -/
theorem perm_sorted_eq (f : Nat → Int) : ∀ (a b : List Nat), a.Perm b → a.Pairwise (fun i k => f i < f k) → b.Pairwise (fun i k => f i < f k) → a = b
  | [], b, h, _, _ => by simpa using h.symm.eq_nil.symm
  | x :: a, [], h, _, _ => by simpa using h.eq_nil
  | x :: a, y :: b, h, ha, hb => by
    have hx : x ∈ y :: b := h.subset (by simp)
    have hy : y ∈ x :: a := h.symm.subset (by simp)
    rw [List.pairwise_cons] at ha hb
    have e : x = y := by
      rcases List.mem_cons.1 hx with e | e
      · exact e
      · rcases List.mem_cons.1 hy with e' | e'
        · exact e'.symm
        · have a1 := ha.1 y e'
          have a2 := hb.1 x e
          omega
    subst e
    rw [perm_sorted_eq f a b (List.Perm.cons_inv h) ha.2 hb.2]

/-- the walk due now stands first, if there is one. -/
theorem sorL_due_first (r : Int) (n i : Nat) (hi : i < (sorL r n).length) (hd : r = duo r ((sorL r n)[i])) : i = 0 := by
  rcases Nat.eq_zero_or_pos i with h | h
  · exact h
  · have hs := sorL_sorted r n
    have h0 := List.pairwise_iff_getElem.1 hs 0 i (by omega) hi h
    have hm : (sorL r n)[0] ∈ sorL r n := List.getElem_mem _
    have := (mem_sorL.1 hm).2
    omega

/-! ### what a walk leaves undone -/
def full (L : Nat) (r : Int) (x : Nat) : Int := topW L r x - lowW L r x
def okU (L : Nat) (r bu : Int) (x : Nat) (u : Int) : Prop :=
  (bgn r x = r → u = full L r x) ∧ (r = duo r x → u = min (full L r x) (max bu 0)) ∧ 0 ≤ u ∧ u ≤ full L r x
theorem full_nonneg (L : Nat) (r : Int) (x : Nat) : 0 ≤ full L r x := by
  have h := top_sub_low L r x
  have p := pw_pos (x + 1)
  unfold full; omega
/-- it has just begun. -/
theorem okU_new {L : Nat} {r bu : Int} {x : Nat} (h : ¬ bgn r x < r) : okU L r bu x (full L r x) :=
  ⟨fun _ => rfl, fun hd => absurd (bgn_lt_due r x hd) h, full_nonneg L r x, Int.le_refl _⟩
/-- it has begun before. -/
theorem okU_old {L : Nat} {r bu : Int} {x : Nat} (h : bgn r x < r) (room : Int) (hd : r = duo r x → room = bu) : okU L r bu x (min (full L r x) (max room 0)) :=
  ⟨fun e => absurd e (by omega), fun e => by rw [hd e], by have := full_nonneg L r x; omega, Int.min_le_left _ _⟩
theorem sorL_getD_mem {r : Int} {n i : Nat} (h : i < (sorL r n).length) : (sorL r n).getD i 0 < n ∧ r ≤ duo r ((sorL r n).getD i 0) := by
  have e : (sorL r n).getD i 0 = (sorL r n)[i] := by simp [List.getD, h]
  rw [e]; exact mem_sorL.1 (List.getElem_mem _)
theorem sorL_getD_first {r : Int} {n i : Nat} (h : i < (sorL r n).length) (hd : r = duo r ((sorL r n).getD i 0)) : i = 0 := by
  have e : (sorL r n).getD i 0 = (sorL r n)[i] := by simp [List.getD, h]
  rw [e] at hd; exact sorL_due_first r n i h hd
end Go.Proofs.Qxb6604778a
