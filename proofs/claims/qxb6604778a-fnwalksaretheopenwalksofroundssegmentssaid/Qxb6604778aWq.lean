/-
  THE WALK of 'zzOpenWalksChainB1'.
-/
import Derived.Test.Qxb6604778aWo
namespace Go.Proofs.Qxb6604778a
open Go.RowKit Go.Sort

theorem sorL_now {r : Int} {k : Nat} (h : r = duo r k) : sorL r (k + 1) = k :: sorL r k := by
  have e1 : nowL r (k + 1) = nowL r k ++ [k] := by unfold nowL; rw [range_snoc, List.filter_append]; simp [← h]
  have e2 : restL r (k + 1) = restL r k := by unfold restL; rw [range_snoc, List.filter_append]; simp; omega
  have e3 : nowL r k = [] := by
    rcases nowL_le_one r k with e | ⟨m, e⟩
    · exact e
    · have hm : m ∈ nowL r k := by rw [e]; simp
      have := mem_nowL.1 hm
      have := due_unique r this.2 h
      omega
  unfold sorL
  rw [e1, e2, e3]; simp
theorem sorL_later {r : Int} {k : Nat} (h : r < duo r k) : sorL r (k + 1) = sorL r k ++ [k] := by
  have e1 : nowL r (k + 1) = nowL r k := by unfold nowL; rw [range_snoc, List.filter_append]; simp; omega
  have e2 : restL r (k + 1) = restL r k ++ [k] := by unfold restL; rw [range_snoc, List.filter_append]; simp [h]
  unfold sorL
  rw [e1, e2, List.append_assoc]
theorem sorL_shut {r : Int} {k : Nat} (h : ¬ r ≤ duo r k) : sorL r (k + 1) = sorL r k := by
  have e1 : nowL r (k + 1) = nowL r k := by unfold nowL; rw [range_snoc, List.filter_append]; simp; omega
  have e2 : restL r (k + 1) = restL r k := by unfold restL; rw [range_snoc, List.filter_append]; simp; omega
  unfold sorL
  rw [e1, e2]
theorem sorL_length (r : Int) (n : Nat) : (sorL r n).length ≤ n := by
  have := openL_length r n
  have := (sorL_perm r n).length_eq
  omega
theorem fldK4 {L : Nat} {r : Int} {k : Nat} (h : k ≤ 60) : fldK L r k 4 = duo r k := by
  have m : min k 60 = k := by omega
  simp [fldK, m]

/-- the insertion of the walk of level k + 2 among those of lower levels. -/
theorem ins_walk (L : Nat) (r : Int) (base g cap k : Nat) (hk : k ≤ 60) (ho : r ≤ duo r k) (a0 a1 a2 a3 a4 : Int) (e0 : a0 = k + 2) (e1 : a1 = lowW L r k) (e2 : a2 = topW L r k) (e3 : a3 = bgn r k) (e4 : a4 = duo r k) (w : World) (hbase : base ≤ w.heap.size)
    (hown : w.ownsRow base 32 5 (.slice (some ⟨g, 0, none⟩) (sorL r k).length cap) (sorL r k).length ((sorL r k).flatMap (encM L r))) :
    Calls Try.prog 16 #[.slice (some ⟨g, 0, none⟩) (sorL r k).length cap, .agg #[.int .i64 a0, .int .i64 a1, .int .i64 a2, .int .i64 a3, .int .i64 a4]] w fun e w' =>
      (∃ g' cap', e = .returned (.slice (some ⟨g', 0, none⟩) (sorL r (k + 1)).length cap') ∧ w'.ownsRow base 32 5 (.slice (some ⟨g', 0, none⟩) (sorL r (k + 1)).length cap') (sorL r (k + 1)).length ((sorL r (k + 1)).flatMap (encM L r))) ∧ w.grownBy w' (some g) := by
  have m : min k 60 = k := by omega
  have hl := sorL_length r k
  have mem : ∀ j, j < (sorL r k).length → (sorL r k).getD j 0 < k ∧ r ≤ duo r ((sorL r k).getD j 0) := fun j hj => sorL_getD_mem hj
  rw [show a0 = fldK L r k 0 by rw [e0]; simp [fldK, m], show a1 = fldK L r k 1 by rw [e1]; simp [fldK, m], show a2 = fldK L r k 2 by rw [e2]; simp [fldK, m], show a3 = fldK L r k 3 by rw [e3]; simp [fldK, m], show a4 = fldK L r k 4 by rw [e4]; simp [fldK, m]]
  by_cases hd : r = duo r k
  · have h := ins_any L r base g cap k 0 (sorL r k) (by omega) (Nat.zero_le _) (.inl rfl) (fun j _ hj => by
      have := mem j hj
      rw [fldK4 hk, fldK4 (by omega)]
      have hne : duo r ((sorL r k).getD j 0) ≠ duo r k := fun e => by have := duo_inj r e; omega
      omega) w hbase hown
    have e : (sorL r k).take 0 ++ k :: (sorL r k).drop 0 = sorL r (k + 1) := by rw [sorL_now hd]; simp
    have el : (sorL r k).length + 1 = (sorL r (k + 1)).length := by rw [sorL_now hd]; simp
    rw [e, el] at h
    exact h
  · have hlt : r < duo r k := by omega
    have h := ins_any L r base g cap k (sorL r k).length (sorL r k) (by omega) (Nat.le_refl _) (by
      rcases Nat.eq_zero_or_pos (sorL r k).length with h0 | h0
      · exact .inl h0
      · right
        have := mem ((sorL r k).length - 1) (by omega)
        rw [fldK4 hk, fldK4 (by omega)]
        have := duo_lt r this.1 hlt
        omega) (fun j h1 h2 => absurd h1 (by omega)) w hbase hown
    have e : (sorL r k).take (sorL r k).length ++ k :: (sorL r k).drop (sorL r k).length = sorL r (k + 1) := by rw [sorL_later hlt]; simp
    have el : (sorL r k).length + 1 = (sorL r (k + 1)).length := by rw [sorL_later hlt]; simp
    rw [e, el] at h
    exact h

theorem bgn_mod (r : Int) (k : Nat) : r - r % pw (k + 2) = bgn r k := by
  have := Int.mul_ediv_add_emod r (pw (k + 2))
  unfold bgn; rw [Int.mul_comm]; omega

set_option maxRecDepth 100000 in
set_option maxHeartbeats 1000000 in
theorem openw_any (r : Int) (L : Nat) (hL : L ≤ 62) (hr0 : 0 ≤ r) (hr : r < pw L) (w : World) :
    Calls Try.prog 11 #[.int .i64 L, .int .i64 r] w fun e w' =>
      (∃ (g cap : Nat), e = .returned (.slice (some ⟨g, 0, none⟩) (sorL r (L - 1)).length cap) ∧ Row w' g 5 (sorL r (L - 1)).length (fun i c => fldK L r ((sorL r (L - 1)).getD i 0) c) ∧ w.heap.size ≤ g ∧ g < w'.heap.size) ∧ Below w.heap.size w w' := by
  have p1 := pw_pos L
  have p2 : pw L ≤ 4611686018427387904 := by rw [← pw_62]; exact pw_mono (by omega)
  obtain ⟨i0, hi, hz0, hz1, hz2⟩ := info_parts Try.info32
  have e1 : ∀ j, j ≤ 62 → wrap64 ((2 : Int) ^ j) = pw j := fun j h => wrap_pw h
  go_enter Try.func11, Try.ntmps11
  go_wp2_with (at_make; refine wpList_make_own _ rfl _ _ 27 rfl w.heap.size 32 i0 _ 5 Try.underlying27 hi hz0 hz1 .i64 .i64 (L : Int) L rfl rfl rfl (by rw [hz2]; omega) (by unfold maxLen; omega) (Nat.le_refl _) ?_; intro w2 hown2 hgr2)
  go_loopw [6, 7, 8] (fun v sg j wr => ∃ (k g cap : Nat) (s : Int), (k = 0 ∨ k + 1 ≤ L) ∧ j = .int .i64 (k + 2) ∧ sg = .int .i64 s ∧ (k + 2 ≤ L → s = pw (k + 2)) ∧ v = .slice (some ⟨g, 0, none⟩) (sorL r k).length cap ∧ wr.ownsRow w.heap.size 32 5 (.slice (some ⟨g, 0, none⟩) (sorL r k).length cap) (sorL r k).length ((sorL r k).flatMap (encM L r)) ∧ Below w.heap.size w wr) (fun _ _ j _ => 100 - (intOf j).toNat)
  case atStart => exact ⟨0, w.heap.size, L, 4, .inl rfl, rfl, rfl, fun _ => by decide, rfl, hown2, (Below.refl _ _).grown hgr2 (Nat.le_refl _) (by simp)⟩
  case round =>
    clear hown2 hgr2
    obtain ⟨k, g, cap, s, hk, rfl, rfl, hs, rfl, hown, hB⟩ := hrel
    have hg := hown.lt g rfl
    have hsz := hB.size
    by_cases hlt : k + 2 ≤ L
    · obtain rfl := hs hlt
      clear hs
      have q1 := pw_pos (k + 1)
      have q2 : pw (k + 2) ≤ pw L := pw_mono hlt
      have q3 : pw (k + 2) = 2 * pw (k + 1) := pw_succ (k + 1)
      have b0 := bgn_nonneg hr0 k
      have b1 := bgn_le r k
      have bs : bgn r k + pw (k + 2) ≤ pw L := bgn_span hlt hr
      have E1 : r - r % pw (k + 2) = bgn r k := bgn_mod r k
      have E2 : pw (k + 2) / 2 = pw (k + 1) := by omega
      have E3 : bgn r k + pw (k + 1) = duo r k := rfl
      have m0 := Int.emod_nonneg r (show pw (k + 2) ≠ 0 by omega)
      have hltz : (k : Int) + 2 ≤ (L : Int) := by omega
      have hx : ¬ pw (k + 2) = 0 := by omega
      have q4 := pw_pos (k + 2)
      have d0 : 0 ≤ duo r k := by unfold duo; omega
      have d1 : duo r k ≤ 4611686018427387904 := by unfold duo; omega
      have d2 : duo r k ≤ pw L := by unfold duo; omega
      have hk60 : k ≤ 60 := by omega
      have Elow : Hid (pw L - 1 - (bgn r k + pw (k + 2) - 1) = lowW L r k) := by refine (?_ : _ = _); unfold lowW; omega
      have Etop : Hid (pw L - 1 - duo r k = topW L r k) := (top_eq L r k).symm
      have Es : Hid (pw (k + 2) * 2 = pw (k + 3)) := by refine (?_ : _ = _); rw [pw_succ (k + 2)]; omega
      have q5 : k + 3 ≤ L → pw (k + 2) * 2 ≤ pw L := fun h => by rw [Es.out]; exact pw_mono h
      clear q3
      by_cases ho : r ≤ duo r k
      · by_cases hlast : k + 3 ≤ L
        · have q6 := q5 hlast
          have hl1 : (k : Int) + 2 < (L : Int) := by omega
          clear q5
          go_wp2_with (go_at_call 16; refine (ins_walk L r w.heap.size g cap k hk60 ho _ _ _ _ _ rfl Elow.out Etop.out rfl rfl _ hsz hown).mono ?_; rintro e w3 ⟨⟨g3, cap3, rfl, hown3⟩, hgr3⟩)
          go_roundw
          case rel => exact ⟨k + 1, g3, cap3, _, .inr (by omega), by go_num, rfl, fun _ => Es.out, rfl, hown3, hB.grown hgr3 hsz (fun j hj => by simp at hj; omega)⟩
          case measure => simp [intOf]; omega
        · have hl1 : ¬ (k : Int) + 2 < (L : Int) := by omega
          clear q5
          go_wp2_with (go_at_call 16; refine (ins_walk L r w.heap.size g cap k hk60 ho _ _ _ _ _ rfl Elow.out Etop.out rfl rfl _ hsz hown).mono ?_; rintro e w3 ⟨⟨g3, cap3, rfl, hown3⟩, hgr3⟩)
          go_roundw
          case rel => exact ⟨k + 1, g3, cap3, _, .inr (by omega), by go_num, rfl, fun h => absurd h (by omega), rfl, hown3, hB.grown hgr3 hsz (fun j hj => by simp at hj; omega)⟩
          case measure => simp [intOf]; omega
      · have HS : Hid (sorL r (k + 1) = sorL r k) := sorL_shut ho
        by_cases hlast : k + 3 ≤ L
        · have q6 := q5 hlast
          have hl1 : (k : Int) + 2 < (L : Int) := by omega
          clear q5
          go_wp2_with fail
          go_roundw
          case rel => exact ⟨k + 1, g, cap, _, .inr (by omega), by go_num, rfl, fun _ => Es.out, by rw [HS.out], by rw [HS.out]; exact hown, hB⟩
          case measure => simp [intOf]; omega
        · have hl1 : ¬ (k : Int) + 2 < (L : Int) := by omega
          clear q5
          go_wp2_with fail
          go_roundw
          case rel => exact ⟨k + 1, g, cap, _, .inr (by omega), by go_num, rfl, fun h => absurd h (by omega), by rw [HS.out], by rw [HS.out]; exact hown, hB⟩
          case measure => simp [intOf]; omega
    · obtain rfl : k = L - 1 := by omega
      have hrow := row_of_owns (encM_len L r) (fldK L r) (fun x c hc => encM_at L r x c hc) hown rfl 0
      have HR : Hid _ := hrow
      clear hrow
      go_wp2_with fail
      go_ret
      exact ⟨⟨g, ⟨cap, rfl⟩, HR.out, hg.1, hg.2⟩, hB⟩
end Go.Proofs.Qxb6604778a
