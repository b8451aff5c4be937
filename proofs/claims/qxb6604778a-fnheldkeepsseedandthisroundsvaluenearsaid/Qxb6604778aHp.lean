/-
  THE PLAIN MATHEMATICS of 'held': what is held, sorted and compacted; no Go in sight.
-/
import Derived.Test.Qxb6604778aWp
import Derived.Lib.SlicesCompact
namespace Go.Proofs.Qxb6604778a
open Go.RowKit

/-- the seed is held; nothing below it, nothing above t; something at most m below t. -/
def Held (t m : Int) (A : List Int) : Prop := 0 ∈ A ∧ (∀ q, q ∈ A → 0 ≤ q ∧ q ≤ t) ∧ ∃ q, q ∈ A ∧ t - m ≤ q

theorem Held.congr {t m : Int} {A B : List Int} (h : Held t m A) (e : ∀ q, q ∈ A ↔ q ∈ B) : Held t m B :=
  ⟨(e 0).1 h.1, fun q hq => h.2.1 q ((e q).2 hq), by obtain ⟨q, h1, h2⟩ := h.2.2; exact ⟨q, (e q).1 h1, h2⟩⟩

theorem sort_mem (A : List Int) (q : Int) : q ∈ A.mergeSort (fun x y => decide (x ≤ y)) ↔ q ∈ A := List.mem_mergeSort
theorem sort_sorted (A : List Int) : (A.mergeSort (fun x y => decide (x ≤ y))).Pairwise (· ≤ ·) := by
  have h := List.pairwise_mergeSort (le := fun x y : Int => decide (x ≤ y)) (fun a b c h1 h2 => by simp at *; omega) (fun a b => by simp; omega) A
  exact h.imp (fun h => by simpa using h)

theorem compact_sub (zs : List Int) (q : Int) (h : q ∈ Lib.compact zs) : q ∈ zs := by
  unfold Lib.compact Lib.compactUpTo at h
  rw [List.mem_map] at h
  obtain ⟨j, hj, rfl⟩ := h
  rw [List.mem_filter, List.mem_range] at hj
  rw [getElem!_pos zs.toArray j (by simpa using hj.1)]
  simp
theorem compact_sup (zs : List Int) (q : Int) (h : q ∈ zs) : q ∈ Lib.compact zs := by
  obtain ⟨i, hi, rfl⟩ := List.getElem_of_mem h
  -- the first place that holds it
  have key : ∀ n i, i ≤ n → (hi : i < zs.length) → zs[i] ∈ Lib.compact zs := by
    intro n
    induction n with
    | zero =>
      intro i h0 hi
      have : i = 0 := by omega
      subst this
      unfold Lib.compact Lib.compactUpTo
      rw [List.mem_map]
      exact ⟨0, by rw [List.mem_filter, List.mem_range]; exact ⟨hi, by simp [Lib.keeps]⟩, by rw [getElem!_pos zs.toArray 0 (by simpa using hi)]; simp⟩
    | succ n ih =>
      intro i hin hi
      by_cases h0 : i = 0
      · subst h0; exact ih 0 (Nat.zero_le _) hi
      · by_cases e : zs[i] = zs[i - 1]
        · rw [e]; exact ih (i - 1) (by omega) (by omega)
        · unfold Lib.compact Lib.compactUpTo
          rw [List.mem_map]
          refine ⟨i, ?_, by rw [getElem!_pos zs.toArray i (by simpa using hi)]; simp⟩
          rw [List.mem_filter, List.mem_range]
          refine ⟨hi, ?_⟩
          apply Lib.keeps_pos
          rw [getElem!_pos zs.toArray i (by simpa using hi), getElem!_pos zs.toArray (i - 1) (by simp; omega)]
          simpa using e
  exact key i i (Nat.le_refl _) hi
theorem compact_mem (zs : List Int) (q : Int) : q ∈ Lib.compact zs ↔ q ∈ zs := ⟨compact_sub zs q, compact_sup zs q⟩
theorem compact_strict (zs : List Int) (h : zs.Pairwise (· ≤ ·)) : (Lib.compact zs).Pairwise (· < ·) := by
  unfold Lib.compact Lib.compactUpTo
  rw [List.pairwise_map]
  have hp : ((List.range zs.length).filter (Lib.keeps zs.toArray)).Pairwise (· < ·) := List.Pairwise.filter _ List.pairwise_lt_range
  refine List.Pairwise.imp_of_mem ?_ hp
  intro i j hi hj hij
  rw [List.mem_filter, List.mem_range] at hi hj
  have hk := hj.2
  have hjl := hj.1
  simp only [Lib.keeps, decide_eq_true_eq] at hk
  rw [getElem!_pos zs.toArray i (by simpa using hi.1), getElem!_pos zs.toArray j (by simpa using hj.1)]
  have hne : zs[j] ≠ zs[j - 1] := by
    rcases hk with h0 | h0
    · omega
    · rw [getElem!_pos zs.toArray j (by simpa using hj.1), getElem!_pos zs.toArray (j - 1) (by simp; omega)] at h0
      simpa using h0
  have le1 : zs[j - 1] ≤ zs[j] := List.pairwise_iff_getElem.1 h (j - 1) j (by omega) hjl (by omega)
  have le2 : zs[i] ≤ zs[j - 1] := by
    by_cases e : i = j - 1
    · subst e; omega
    · exact List.pairwise_iff_getElem.1 h i (j - 1) (by omega) (by omega) (by omega)
  show zs[i] < zs[j]
  omega

/-- what 'held' hands back: sorted, each once. -/
def heldOut (A : List Int) : List Int := Lib.compact (A.mergeSort (fun x y => decide (x ≤ y)))
theorem heldOut_held {t m : Int} {A : List Int} (h : Held t m A) : Held t m (heldOut A) :=
  h.congr (fun q => by unfold heldOut; rw [compact_mem, sort_mem])
theorem heldOut_strict (A : List Int) : (heldOut A).Pairwise (· < ·) := compact_strict _ (sort_sorted A)

theorem held_pos {t m : Int} {B : List Int} (h : Held t m B) : 0 < B.length := List.length_pos_of_mem h.1
theorem held_head {t m : Int} {B : List Int} (h : Held t m B) (hs : B.Pairwise (· < ·)) : B.getD 0 0 = 0 := by
  obtain ⟨j, hj, e⟩ := List.getElem_of_mem h.1
  rcases Nat.eq_zero_or_pos j with h0 | h0
  · subst h0; simp [List.getD, hj, e]
  · have := List.pairwise_iff_getElem.1 hs 0 j (by omega) hj h0
    have h1 := (h.2.1 B[0] (List.getElem_mem _)).1
    omega
theorem held_step {B : List Int} (hs : B.Pairwise (· < ·)) {i : Nat} (hi : i + 1 < B.length) : B.getD i 0 < B.getD (i + 1) 0 := by
  have h1 : i < B.length := by omega
  have := List.pairwise_iff_getElem.1 hs i (i + 1) h1 hi (by omega)
  simpa [List.getD, h1, hi] using this
theorem held_last {t m : Int} {B : List Int} (h : Held t m B) (hs : B.Pairwise (· < ·)) : B.getD (B.length - 1) 0 ≤ t ∧ t - B.getD (B.length - 1) 0 ≤ m := by
  have hp := held_pos h
  have hl : B.length - 1 < B.length := by omega
  have e : B.getD (B.length - 1) 0 = B[B.length - 1] := by simp [List.getD, hl]
  rw [e]
  refine ⟨(h.2.1 _ (List.getElem_mem _)).2, ?_⟩
  obtain ⟨q, hq, hqt⟩ := h.2.2
  obtain ⟨j, hj, rfl⟩ := List.getElem_of_mem hq
  by_cases ej : j = B.length - 1
  · subst ej; omega
  · have := List.pairwise_iff_getElem.1 hs j (B.length - 1) hj hl (by omega)
    omega

/-! ### the loop over the walks -/
/-- what stands of the positions when the first i walks (in the order of their due) have been looked at. -/
def HeldAt (L : Nat) (r bu : Int) (i : Nat) (A : List Int) : Prop :=
  0 ∈ A ∧ (∀ q, q ∈ A → 0 ≤ q ∧ q ≤ pw L - 1 - r) ∧
  (if i = 0 then pw L - 1 - r ∈ A else ∃ q, q ∈ A ∧ pw L - 1 - r - max bu 0 ≤ q ∧ ∀ j, i ≤ j → j < (sorL r (L - 1)).length → bgn r ((sorL r (L - 1)).getD j 0) < r → topW L r ((sorL r (L - 1)).getD j 0) < q)

theorem top_lt {L : Nat} {r : Int} {x : Nat} (h : r < duo r x) : topW L r x < pw L - 1 - r := by rw [top_eq]; omega
theorem low_nonneg {L : Nat} {r : Int} {x : Nat} (hx : x + 2 ≤ L) (hr : r < pw L) : 0 ≤ lowW L r x := by
  have := bgn_span hx hr
  unfold lowW; omega
/-- a walk that is open behind the one due now, and has begun, lies wholly below it. -/
theorem top_lt_low {L : Nat} {r : Int} {k x : Nat} (hk : r = duo r k) (hx : r < duo r x) (hb : bgn r x < r) : topW L r x < lowW L r k := by
  have hkx : k < x := by
    rcases Nat.lt_trichotomy x k with h | h | h
    · exact absurd (bgn_due r h hk) (by omega)
    · subst h; omega
    · exact h
  have a := bgn_room r (duo r x) k (duo_dvd r hkx) hx
  rw [top_eq]
  unfold lowW
  omega

theorem sorL_idx {r : Int} {n j : Nat} (hj : j < (sorL r n).length) (h0 : 0 < j) : r < duo r ((sorL r n).getD j 0) := by
  have h := (sorL_getD_mem hj).2
  have hn : r ≠ duo r ((sorL r n).getD j 0) := fun e => by have := sorL_getD_first hj e; omega
  omega

/-- the loop's start, its end, a walk passed over, a walk looked at. -/
theorem HeldAt.held {L : Nat} {r bu : Int} {A : List Int} (h : HeldAt L r bu (sorL r (L - 1)).length A) : Held (pw L - 1 - r) (max bu 0) A := by
  refine ⟨h.1, h.2.1, ?_⟩
  have h3 := h.2.2
  by_cases e : (sorL r (L - 1)).length = 0
  · rw [if_pos e] at h3; exact ⟨_, h3, by omega⟩
  · rw [if_neg e] at h3
    obtain ⟨q, h1, h2, _⟩ := h3
    exact ⟨q, h1, h2⟩
theorem HeldAt.pass {L : Nat} {r bu : Int} {i : Nat} {A : List Int} (h : HeldAt L r bu i A) : HeldAt L r bu (i + 1) A ∨ ¬ bgn r ((sorL r (L - 1)).getD i 0) = r := by
  by_cases hb : bgn r ((sorL r (L - 1)).getD i 0) = r
  · left
    refine ⟨h.1, h.2.1, ?_⟩
    rw [if_neg (by omega)]
    have h3 := h.2.2
    by_cases e : i = 0
    · rw [if_pos e] at h3
      exact ⟨_, h3, by omega, fun j h1 h2 _ => top_lt (sorL_idx h2 (by omega))⟩
    · rw [if_neg e] at h3
      obtain ⟨q, a, b, c⟩ := h3
      exact ⟨q, a, b, fun j h1 h2 h3 => c j (by omega) h2 h3⟩
  · exact .inr hb
theorem HeldAt.next {L : Nat} {r bu : Int} {i : Nat} {A B : List Int} {u : Int} (h : HeldAt L r bu i A) (hi : i < (sorL r (L - 1)).length) (hr : r < pw L) (hb : bgn r ((sorL r (L - 1)).getD i 0) < r) (hu : okU L r bu ((sorL r (L - 1)).getD i 0) u)
    (hB : ∀ q, q ∈ A → ¬ (topW L r ((sorL r (L - 1)).getD i 0) - u < q ∧ q ≤ topW L r ((sorL r (L - 1)).getD i 0)) → q ∈ B) (hr2 : topW L r ((sorL r (L - 1)).getD i 0) - u ∈ B) (hB0 : ∀ q, q ∈ B → 0 ≤ q ∧ q ≤ pw L - 1 - r) : HeldAt L r bu (i + 1) B := by
  have hm := sorL_getD_mem hi
  obtain ⟨x, hx⟩ : ∃ x, (sorL r (L - 1)).getD i 0 = x := ⟨_, rfl⟩
  have h3 := h.2.2
  rw [hx] at hm hb hu hB hr2
  have hlow : 0 ≤ lowW L r x := low_nonneg (by omega) hr
  obtain ⟨_, u2, u3, u4⟩ := hu
  unfold full at u2 u4
  refine ⟨hB 0 h.1 (by omega), hB0, ?_⟩
  rw [if_neg (by omega)]
  by_cases e : i = 0
  · rw [if_pos e] at h3
    by_cases hd : r = duo r x
    · refine ⟨_, hr2, ?_, ?_⟩
      · have := u2 hd
        have ht : topW L r x = pw L - 1 - r := by rw [top_eq]; omega
        omega
      · intro j h1 h2 h4
        have hj := sorL_idx h2 (by omega)
        have := top_lt_low (L := L) hd hj h4
        omega
    · have ht := top_lt (L := L) (show r < duo r x by omega)
      exact ⟨_, hB _ h3 (by omega), by omega, fun j h1 h2 _ => top_lt (sorL_idx h2 (by omega))⟩
  · rw [if_neg e] at h3
    obtain ⟨q, a, b, c⟩ := h3
    have hq := c i (Nat.le_refl _) hi (by rw [hx]; exact hb)
    rw [hx] at hq
    exact ⟨q, hB q a (by omega), b, fun j h1 h2 h3 => c j (by omega) h2 h3⟩
end Go.Proofs.Qxb6604778a
