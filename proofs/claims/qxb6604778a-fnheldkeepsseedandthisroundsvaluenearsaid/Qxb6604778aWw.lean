/-
  THE WALK of 'walks'.
-/
import Derived.Test.Qxb6604778aWm
import Derived.Deep.AppendLies
namespace Go.Proofs.Qxb6604778a
open Go.RowKit Go.Sort

theorem Try.info46 : (Try.prog.info? 46).map (fun i => (i.zero, i.size, i.bytes)) = some (some (.agg #[.int .i64 0, .int .i64 0, .int .i64 0, .int .i64 0, .int .i64 0, .int .i64 0]), 6, 48) := by kernel_rfl

/-- the plan lies boxed in block B. -/
def PlanAt (w : World) (B : Nat) (ln lv bu : Int) : Prop :=
  w.cell? ⟨B, 0, none⟩ = some (.int .i64 ln) ∧ w.cell? ⟨B, 1, none⟩ = some (.int .i64 lv) ∧ w.cell? ⟨B, 2, none⟩ = some (.int .i64 bu)
theorem PlanAt.block {w w' : World} {B : Nat} {ln lv bu : Int} (h : PlanAt w B ln lv bu) (hb : w'.heap[B]? = w.heap[B]?) : PlanAt w' B ln lv bu :=
  ⟨(World.cell?_of_block (w := w) (a := ⟨B, 0, none⟩) hb).trans h.1, (World.cell?_of_block (w := w) (a := ⟨B, 1, none⟩) hb).trans h.2.1, (World.cell?_of_block (w := w) (a := ⟨B, 2, none⟩) hb).trans h.2.2⟩
theorem span_below (ln bu : Int) (L : Nat) (hL : L ≤ 62) (w : World) :
    Calls Try.prog 19 #[.agg #[.int .i64 ln, .int .i64 L, .int .i64 bu]] w fun e w' => e = .returned (.int .i64 (pw L)) ∧ Below w.heap.size w w' :=
  (span_any ln bu L hL w).mono fun _ _ ⟨he, q, os, hw⟩ => ⟨he, by rw [hw]; exact below_grow w q os⟩

theorem wrap_i64 (x : Int) : IntKind.i64.wrap x = wrap64 x := by rw [IntKind.wrap_i64]; unfold wrap64; rfl
theorem wrap_pw {k : Nat} (h : k ≤ 62) : wrap64 ((2 : Int) ^ k) = pw k := by
  have p1 := pw_pos k
  have p2 : pw k ≤ 4611686018427387904 := by rw [← pw_62]; exact pw_mono h
  exact IntWalk.wrap64_in _ ⟨by unfold pw at p1 p2; omega, by unfold pw at p1 p2; omega⟩
theorem wrap_bgn {r : Int} {k : Nat} (h0 : 0 ≤ r) (h1 : r < 4611686018427387904) : wrap64 (r / (2 : Int) ^ (k + 2) * (2 : Int) ^ (k + 2)) = bgn r k := by
  have b0 := bgn_nonneg h0 k
  have b1 := bgn_le r k
  exact IntWalk.wrap64_in _ ⟨by show _ ≤ bgn r k; omega, by show bgn r k ≤ _; omega⟩

set_option maxHeartbeats 400000 in
theorem walks_none (ln bu r : Int) (L : Nat) (hL : L ≤ 62) (hr : pw L ≤ r) (w : World) :
    Calls Try.prog 15 #[.agg #[.int .i64 ln, .int .i64 L, .int .i64 bu], .int .i64 r] w fun e w' => e = .returned (.slice none 0 0) ∧ Below w.heap.size w w' := by
  go_enter Try.func15, Try.ntmps15
  go_wp2_with (go_at_call 19; refine (span_below _ _ _ hL _).mono ?_; rintro e w1 ⟨rfl, hb⟩)
  go_ret
  exact ⟨rfl, ((Below.refl _ _).alloc (Nat.le_refl _) _).trans (hb.mono (by simp))⟩

/-- the row while the undone hashes are reckoned: of the first k walks they stand. -/
def rowU (L : Nat) (r : Int) (n : Nat) (U : Nat → Int) (k i c : Nat) : Int := if c = 5 then (if i < k then U i else 0) else fldK L r ((sorL r n).getD i 0) c
theorem rowU_start (L : Nat) (r : Int) (n : Nat) (U : Nat → Int) : ∀ i, i < (sorL r n).length → ∀ c, c < 6 → fldK L r ((sorL r n).getD i 0) c = rowU L r n U 0 i c := by
  intro i _ c hc
  unfold rowU
  by_cases h : c = 5
  · subst h; simp [fldK]
  · rw [if_neg h]

theorem rowU_at {L : Nat} {r : Int} {n k x : Nat} (hx : (sorL r n).getD k 0 = x) (h60 : x ≤ 60) (U : Nat → Int) (j : Nat) :
    some (Value.int .i64 (rowU L r n U j k 1)) = some (.int .i64 (lowW L r x)) ∧ some (Value.int .i64 (rowU L r n U j k 2)) = some (.int .i64 (topW L r x)) ∧ some (Value.int .i64 (rowU L r n U j k 3)) = some (.int .i64 (bgn r x)) ∧ some (Value.int .i64 (rowU L r n U j k 4)) = some (.int .i64 (duo r x)) := by
  have m : min x 60 = x := by omega
  unfold rowU
  rw [hx]
  simp [fldK, m]

theorem okU_step {L : Nat} {r bu : Int} {n k : Nat} {U : Nat → Int} {u : Int} (h : ∀ i, i < k → okU L r bu ((sorL r n).getD i 0) (U i)) (hu : okU L r bu ((sorL r n).getD k 0) u) :
    ∀ i, i < k + 1 → okU L r bu ((sorL r n).getD i 0) (if i = k then u else U i) := by
  intro i hi
  by_cases e : i = k
  · subst e; rw [if_pos rfl]; exact hu
  · rw [if_neg e]; exact h i (by omega)
theorem rowU_step1 (L : Nat) (r : Int) (n : Nat) (U : Nat → Int) (k : Nat) (u : Int) (N : Nat) : ∀ i, i < N → ∀ c, c < 6 → (if i = k ∧ c = 5 then u else rowU L r n U k i c) = rowU L r n (fun i => if i = k then u else U i) (k + 1) i c := by
  intro i _ c _
  unfold rowU
  by_cases h5 : c = 5
  · subst h5
    by_cases e : i = k
    · subst e; simp
    · simp only [e, false_and, if_false, if_true]
      by_cases h : i < k
      · rw [if_pos h, if_pos (by omega)]
      · rw [if_neg h, if_neg (by omega)]
  · simp [h5]
theorem rowU_step2 (L : Nat) (r : Int) (n : Nat) (U : Nat → Int) (k : Nat) (u v : Int) (N : Nat) : ∀ i, i < N → ∀ c, c < 6 → (if i = k ∧ c = 5 then u else (fun j d => if j = k ∧ d = 5 then v else rowU L r n U k j d) i c) = rowU L r n (fun i => if i = k then u else U i) (k + 1) i c := by
  intro i hi c hc
  rw [← rowU_step1 L r n U k u N i hi c hc]
  by_cases e : i = k ∧ c = 5
  · rw [if_pos e, if_pos e]
  · rw [if_neg e, if_neg e]; simp only [if_neg e]
theorem room_due {L : Nat} {r bu bv : Int} {x : Nat} (h0 : -9223372036854775808 ≤ bu) (h1 : bu ≤ 9223372036854775807) (hd : r = duo r x) (hb : bv = 0) :
    IntKind.i64.wrap (IntKind.i64.wrap (IntKind.i64.wrap (bu * IntKind.i64.wrap (IntKind.i64.wrap (duo r x - r) + 1)) - wrap64 (lateN (L : Int) r (duo r x))) - bv) = bu := by
  rw [lateN_near (L : Int) r (duo r x) (by omega), wrap64_zero, hb, show duo r x - r = 0 by omega]
  simp only [wrap_i64]
  have e : wrap64 bu = bu := IntWalk.wrap64_in bu ⟨by omega, by omega⟩
  rw [wrap64_zero, Int.zero_add, IntWalk.wrap64_in 1 ⟨by omega, by omega⟩, Int.mul_one, e, Int.sub_zero, Int.sub_zero, e, e]

set_option maxRecDepth 100000 in
set_option maxHeartbeats 1000000 in
theorem walks_any (ln bu r : Int) (L : Nat) (hL : L ≤ 62) (hr0 : 0 ≤ r) (hr : r < pw L) (hbu0 : -9223372036854775808 ≤ bu) (hbu1 : bu ≤ 9223372036854775807) (w : World) :
    Calls Try.prog 15 #[.agg #[.int .i64 ln, .int .i64 L, .int .i64 bu], .int .i64 r] w fun e w' =>
      (∃ (g cap : Nat) (U : Nat → Int), e = .returned (.slice (some ⟨g, 0, none⟩) (sorL r (L - 1)).length cap) ∧ (∀ i, i < (sorL r (L - 1)).length → okU L r bu ((sorL r (L - 1)).getD i 0) (U i)) ∧
        Row w' g 6 (sorL r (L - 1)).length (rowU L r (L - 1) U (sorL r (L - 1)).length) ∧ w.heap.size ≤ g ∧ g < w'.heap.size) ∧ Below w.heap.size w w' := by
  have p1 := pw_pos L
  have p2 : pw L ≤ 4611686018427387904 := by rw [← pw_62]; exact pw_mono (by omega)
  obtain ⟨i0, hi, hz0, hz1, hz2⟩ := info_parts Try.info46
  go_enter Try.func15, Try.ntmps15
  go_wp2_with fail
  refine (span_below _ _ _ hL _).mono ?_
  rintro e w1 ⟨rfl, hb1⟩
  have hB1 : Below w.heap.size w w1 := ((Below.refl _ _).alloc (Nat.le_refl _) _).trans (hb1.mono (by simp))
  have hz : w.heap.size + 1 ≤ w1.heap.size := by have := hb1.size; simpa using this
  have hpl : PlanAt w1 w.heap.size ln L bu := by
    refine ⟨?_, ?_, ?_⟩ <;> (rw [hb1.cell (by simp)]; simp)
  obtain ⟨hp0, hp1, hp2⟩ := hpl
  clear hb1
  go_wp2_with (at_make; refine wpList_make_own _ rfl _ _ 40 rfl (w.heap.size + 1) 46 i0 _ 6 Try.underlying40 hi hz0 hz1 .i64 .i64 (L : Int) L rfl rfl rfl (by rw [hz2]; omega) (by unfold maxLen; omega) hz ?_; intro w2 hown2 hgr2)
  have hst : PlanAt w2 w.heap.size ln L bu := PlanAt.block ⟨hp0, hp1, hp2⟩ (hgr2.block _ (by omega) (by simp))
  have hB2 : Below w.heap.size w w2 := hB1.grown hgr2 (by omega) (by simp)
  have hz2' : w.heap.size + 1 ≤ w2.heap.size := Nat.le_trans hz hgr2.size
  clear hp0 hp1 hp2 hB1
  go_loopw [5, 6] (fun v j wr => ∃ k g cap : Nat, (k = 0 ∨ k + 1 ≤ L) ∧ j = .int .i64 (k + 2) ∧ v = .slice (some ⟨g, 0, none⟩) (openL r k).length cap ∧ wr.ownsRow (w.heap.size + 1) 46 6 (.slice (some ⟨g, 0, none⟩) (openL r k).length cap) (openL r k).length ((openL r k).flatMap (encK L r)) ∧ PlanAt wr w.heap.size ln L bu ∧ Below w.heap.size w wr ∧ w.heap.size + 1 ≤ wr.heap.size) (fun _ j _ => 100 - (intOf j).toNat)
  case atStart => exact ⟨0, w1.heap.size, L, .inl rfl, rfl, rfl, hown2, hst, hB2, hz2'⟩
  case round =>
    clear hown2 hgr2 hst hB2 hz2' hz
    obtain ⟨k, g, cap, hk, rfl, rfl, hown, ⟨hp0, hp1, hp2⟩, hB, hz⟩ := hrel
    have q1 := pw_pos (k + 1)
    have q4 := pw_pos (k + 2)
    by_cases hlt : k + 2 ≤ L
    · have q2 : pw (k + 2) ≤ pw L := pw_mono hlt
      have q3 : pw (k + 2) = 2 * pw (k + 1) := pw_succ (k + 1)
      have Q3 : Hid (pw (k + 2) = 2 * pw (k + 1)) := q3
      have b0 := bgn_nonneg hr0 k
      have b1 := bgn_le r k
      have hltz : (k : Int) + 2 ≤ (L : Int) := by omega
      have q5 : pw (k + 1) ≤ 2305843009213693952 := by omega
      have d0 : 0 ≤ duo r k := by unfold duo; omega
      have d1 : duo r k ≤ 6917529027641081856 := by unfold duo; omega
      have bs : bgn r k + pw (k + 2) ≤ pw L := bgn_span hlt hr
      have hs0 : w.heap.size < wr.heap.size := by omega
      have HL : Hid (IntKind.i64.wrap (IntKind.i64.wrap (pw L - bgn r k) - IntKind.i64.wrap ((2 : Int) ^ ((k : Int) + 2).toNat)) = lowW L r k) := by
        refine (?_ : _ = _)
        rw [show ((k : Int) + 2).toNat = k + 2 by omega, wrap_i64 ((2 : Int) ^ (k + 2)), wrap_pw (by omega), wrap_i64 (pw L - bgn r k), IntWalk.wrap64_in _ ⟨by omega, by omega⟩, wrap_i64, IntWalk.wrap64_in _ ⟨by omega, by omega⟩]
        rfl
      have l0 : 0 ≤ lowW L r k := by unfold lowW; omega
      have l1 : lowW L r k ≤ 4611686018427387904 := by unfold lowW; omega
      have k1 : k + 1 ≤ 62 := by omega
      have k2 : k + 2 ≤ 62 := by omega
      have r62 : r < 4611686018427387904 := by omega
      have e1 : ∀ j, j ≤ 62 → wrap64 ((2 : Int) ^ j) = pw j := fun j h => wrap_pw h
      have e3 : ∀ x : Int, 0 ≤ x → x < 4611686018427387904 → wrap64 (x / (2 : Int) ^ (k + 2) * (2 : Int) ^ (k + 2)) = bgn x k := fun x h h' => wrap_bgn h h'
      clear q3
      have e4 : bgn r k + pw (k + 1) = duo r k := rfl
      by_cases ho : r ≤ duo r k
      · have mixed : Try.prog.follows .mixedOrders = true := by kernel_rfl
        have c0 := fun n os => cell_grown (w := wr) (a := ⟨w.heap.size, 0, none⟩) hs0 hp0 n os
        have c1 := fun n os => cell_grown (w := wr) (a := ⟨w.heap.size, 1, none⟩) hs0 hp1 n os
        have c2 := fun n os => cell_grown (w := wr) (a := ⟨w.heap.size, 2, none⟩) hs0 hp2 n os
        go_wp2_with fail
        go_quiet_grown ((go_at_call 19; refine Calls.grown_of (span_any _ _ _ hL _)))
        have hgr : wr.grownBy (grow (wr.drewN nq) osq) none := ⟨rfl, rfl, rfl, (below_grow wr nq osq).size, fun k hk _ => (below_grow wr nq osq).block k hk⟩
        clear c0 c1 c2
        rw [HL.out]
        generalize grow (wr.drewN nq) osq = w3 at hgr ⊢
        have hown3 := hown.kept hgr (by simp [Value.ownBlock])
        have hB3 := hB.grown hgr (by omega) (by simp)
        have hz3 : w.heap.size + 1 ≤ w3.heap.size := Nat.le_trans hz hgr.size
        have hp3 : Hid (PlanAt w3 w.heap.size ln L bu) := PlanAt.block ⟨hp0, hp1, hp2⟩ (hgr.block _ (by omega) (by simp))
        clear hown hB hz hp0 hp1 hp2 hgr
        go_wp2_with (at_builtin; refine wpList_append_lies _ rfl (.tmp 47) (.tmp 59) 40 rfl (w.heap.size + 1) 46 i0 _ 6 48 Try.underlying40 hi hz0 hz1 hz2 rfl (by decide) _ _ _ rfl (hown3.alloc _) ⟨w3.heap.size, 0, none⟩ 1 1 [.int .i64 ((k : Int) + 2), .int .i64 (lowW L r k), .int .i64 (lowW L r k + pw (k + 1) - 1), .int .i64 (bgn r k), .int .i64 (duo r k), .int .i64 0] rfl rfl (World.news_of_block (heap_alloc_new w3 _)) ?c2 (by decide) ?c3 ?c4 ?c5 (w3.heap.size + 1) (by simp) ?_)
        case c2 =>
          intro u hu
          simp at hu
          rcases hu with rfl | rfl | rfl | rfl | rfl | rfl <;> rfl
        case c3 => have := openL_length r k; unfold maxLen; omega
        case c4 => have := openL_length r k; omega
        case c5 => simp; omega
        intro g4 cap4 w4 hown4 hgr4 hat4 hlt4
        have HO : Hid (openL r (k + 1) = openL r k ++ [k]) := openL_yes ho
        have hg3 := (hown3.lt g rfl).1
        have hown5 : Hid (w4.ownsRow (w.heap.size + 1) 46 6 (.slice (some ⟨g4, 0, none⟩) (openL r (k + 1)).length cap4) (openL r (k + 1)).length ((openL r (k + 1)).flatMap (encK L r))) := by
          refine (?_ : World.ownsRow _ _ _ _ _ _ _)
          rw [HO.out, List.flatMap_append, List.length_append]
          have e : [k].flatMap (encK L r) = [.int .i64 ((k : Int) + 2), .int .i64 (lowW L r k), .int .i64 (lowW L r k + pw (k + 1) - 1), .int .i64 (bgn r k), .int .i64 (duo r k), .int .i64 0] := by
            have m : min k 60 = k := by omega
            simp [encK, fldK, m, topW]
          rw [e]; exact hown4
        have hp4 : Hid (PlanAt w4 w.heap.size ln L bu) := by
          refine (PlanAt.block (PlanAt.block hp3.out (heap_alloc_old w3 _ (by omega))) (hgr4.block _ (by simp; omega) (by simp [Value.ownBlock]; omega)))
        have hB4 : Below w.heap.size w w4 := (hB3.alloc (by omega) _).grown hgr4 (by simp; omega) (fun j hj => by simp [Value.ownBlock] at hj; omega)
        have hz4 : w.heap.size + 1 ≤ w4.heap.size := by have := hgr4.size; simp at this; omega
        clear hown4 hgr4 hat4 hlt4 hown3 hp3 hB3 hz3 e1 e3 e4
        go_wp2_with fail
        go_roundw
        case rel => exact ⟨k + 1, g4, cap4, .inr (by omega), by go_num, by rw [HO.out]; simp, hown5.out, hp4.out, hB4, hz4⟩
        case measure => simp [intOf]; omega
      · have hoL : openL r (k + 1) = openL r k := openL_no ho
        have HO : Hid (openL r (k + 1) = openL r k) := hoL
        clear hoL
        go_wp2_with fail
        clear e1 e3 e4
        go_roundw
        case rel => exact ⟨k + 1, g, cap, .inr (by omega), by go_num, by rw [HO.out], by rw [HO.out]; exact hown, ⟨hp0, hp1, hp2⟩, hB, hz⟩
        case measure => simp [intOf]; omega
    · obtain rfl : k = L - 1 := by omega
      have hrow := row_of_owns (encK_len L r) (fldK L r) (fun x c hc => encK_at L r x c hc) hown rfl 0
      have hg := hown.lt g rfl
      have hlt2 : g < wr.heap.size := hg.2
      have hlt1 : w.heap.size + 1 ≤ g := hg.1
      have r62 : r < 4611686018427387904 := by omega
      have HR : Hid _ := hrow
      have HP : Hid (PlanAt wr w.heap.size ln L bu) := ⟨hp0, hp1, hp2⟩
      clear hrow hown hg
      go_wp2_with fail
      refine (sort_any L r (L - 1) g cap hr0 r62 (by omega) _ hlt2 HR.out).mono ?_
      rintro e w5 ⟨rfl, hrow5, hgr5⟩
      have hp5 : Hid (PlanAt w5 w.heap.size ln L bu) := PlanAt.block HP.out (hgr5.block _ (by omega) (by simp; omega))
      have hB5 : Below w.heap.size w w5 := hB.grown hgr5 (by omega) (fun j hj => by simp at hj; omega)
      have hz5 : g < w5.heap.size := Nat.lt_of_lt_of_le hlt2 hgr5.size
      clear HR HP hp0 hp1 hp2 hgr5 hB hz hlt2
      have hln : (openL r (L - 1)).length = (sorL r (L - 1)).length := (sorL_perm r (L - 1)).length_eq.symm
      rw [hln]
      clear hln
      have HR5 : Hid _ := hrow5
      clear hrow5
      have hN : (sorL r (L - 1)).length ≤ 61 := by
        have := openL_length r (L - 1)
        have := (sorL_perm r (L - 1)).length_eq
        omega
      go_wp2_with fail
      go_loopw [10, 65] (fun b i wr => ∃ (k : Nat) (bv : Int) (U : Nat → Int), k ≤ (sorL r (L - 1)).length ∧ i = .int .i64 k ∧ b = .int .i64 bv ∧ (k = 0 → bv = 0) ∧ (∀ i, i < k → okU L r bu ((sorL r (L - 1)).getD i 0) (U i)) ∧ Row wr g 6 (sorL r (L - 1)).length (rowU L r (L - 1) U k) ∧ PlanAt wr w.heap.size ln L bu ∧ Below w.heap.size w wr ∧ g < wr.heap.size) (fun _ i _ => 100 - (intOf i).toNat)
      case atStart => exact ⟨0, 0, fun _ => 0, Nat.zero_le _, rfl, rfl, fun _ => rfl, fun i h => absurd h (by omega), Row.congr HR5.out (rowU_start L r (L - 1) _), hp5.out, hB5, hz5⟩
      case round =>
        clear HR5 hp5 hB5 hz5
        obtain ⟨k, bv, U, hk, rfl, rfl, hb0, hU, hrow, ⟨hp0, hp1, hp2⟩, hB, hg⟩ := hrel
        by_cases hlt : k < (sorL r (L - 1)).length
        · have hx := sorL_getD_mem hlt
          have hfirst := fun h => sorL_getD_first hlt h
          obtain ⟨x, hxe⟩ : ∃ x, (sorL r (L - 1)).getD k 0 = x := ⟨_, rfl⟩
          rw [hxe] at hx hfirst
          have hx60 : x ≤ 60 := by omega
          have c1 : wr.cell? ⟨g, k * 6 + 1, none⟩ = some (.int .i64 (lowW L r x)) := (hrow k hlt 1 (by omega)).1.trans (rowU_at hxe hx60 U k).1
          have c2 : wr.cell? ⟨g, k * 6 + 2, none⟩ = some (.int .i64 (topW L r x)) := (hrow k hlt 2 (by omega)).1.trans (rowU_at hxe hx60 U k).2.1
          have c3 : wr.cell? ⟨g, k * 6 + 3, none⟩ = some (.int .i64 (bgn r x)) := (hrow k hlt 3 (by omega)).1.trans (rowU_at hxe hx60 U k).2.2.1
          have c4 : wr.cell? ⟨g, k * 6 + 4, none⟩ = some (.int .i64 (duo r x)) := (hrow k hlt 4 (by omega)).1.trans (rowU_at hxe hx60 U k).2.2.2
          have c5 := (hrow k hlt 5 (by omega)).1
          have f5 := (hrow k hlt 5 (by omega)).2
          have HRW : Hid (Row wr g 6 (sorL r (L - 1)).length (rowU L r (L - 1) U k)) := hrow
          have HUU : Hid (∀ i, i < k → okU L r bu ((sorL r (L - 1)).getD i 0) (U i)) := hU
          have HFI : Hid (r = duo r x → k = 0) := hfirst
          have HXE : Hid ((sorL r (L - 1)).getD k 0 = x) := hxe
          have HB0 : Hid (k = 0 → bv = 0) := hb0
          clear hrow hU hfirst hxe hb0
          have hltz : (k : Int) < ((sorL r (L - 1)).length : Int) := by omega
          have hxL : x + 2 ≤ L := by omega
          have bs : bgn r x + pw (x + 2) ≤ pw L := bgn_span hxL hr
          have b0 := bgn_nonneg hr0 x
          have b1 := bgn_le r x
          have q1 := pw_pos (x + 1)
          have q2 : pw (x + 2) = 2 * pw (x + 1) := pw_succ (x + 1)
          have l0 : 0 ≤ lowW L r x := by unfold lowW; omega
          have l1 : lowW L r x ≤ 4611686018427387904 := by unfold lowW; omega
          have t0 : 0 ≤ topW L r x := by unfold topW; omega
          have t1 : topW L r x ≤ 4611686018427387904 := by unfold topW lowW; omega
          have d0 : 0 ≤ duo r x := by unfold duo; omega
          have d1 : duo r x ≤ 4611686018427387904 := by unfold duo; omega
          clear bs q1 q2
          go_wp2_with fail
          go_region
          have hrow6 : Row (wr.setCell ⟨g, k * 6 + 5, none⟩ (.int .i64 (topW L r x - lowW L r x))).drew g 6 (sorL r (L - 1)).length (fun j d => if j = k ∧ d = 5 then topW L r x - lowW L r x else rowU L r (L - 1) U k j d) := HRW.out.set hlt (by omega) _
          have hB6 : Below w.heap.size w (wr.setCell ⟨g, k * 6 + 5, none⟩ (.int .i64 (topW L r x - lowW L r x))).drew := (hB.setCell (by simp; omega) _).drew
          have hg6 : g < (wr.setCell ⟨g, k * 6 + 5, none⟩ (.int .i64 (topW L r x - lowW L r x))).drew.heap.size := by simpa using hg
          have hp6 : PlanAt (wr.setCell ⟨g, k * 6 + 5, none⟩ (.int .i64 (topW L r x - lowW L r x))).drew w.heap.size ln L bu := by
            refine PlanAt.block ⟨hp0, hp1, hp2⟩ ?_
            show (wr.setCell ⟨g, k * 6 + 5, none⟩ (.int .i64 (topW L r x - lowW L r x))).heap[w.heap.size]? = _
            exact Below.heap_setCell _ _ _ _ (by simp; omega)
          clear hp0 hp1 hp2 hB hg c1 c2 c3 c4 c5 f5 HRW
          generalize (wr.setCell ⟨g, k * 6 + 5, none⟩ (.int .i64 (topW L r x - lowW L r x))).drew = w6 at hrow6 hB6 hg6 hp6 ⊢
          obtain ⟨hp0, hp1, hp2⟩ := hp6
          have c3 : w6.cell? ⟨g, k * 6 + 3, none⟩ = some (.int .i64 (bgn r x)) := (hrow6 k hlt 3 (by omega)).1.trans (by simpa using (rowU_at HXE.out hx60 U k).2.2.1)
          have c4 : w6.cell? ⟨g, k * 6 + 4, none⟩ = some (.int .i64 (duo r x)) := (hrow6 k hlt 4 (by omega)).1.trans (by simpa using (rowU_at HXE.out hx60 U k).2.2.2)
          have c5 : w6.cell? ⟨g, k * 6 + 5, none⟩ = some (.int .i64 (topW L r x - lowW L r x)) := (hrow6 k hlt 5 (by omega)).1.trans (by simp)
          have f5 := (hrow6 k hlt 5 (by omega)).2
          have HRW : Hid _ := hrow6
          clear hrow6
          by_cases hbr : bgn r x < r
          · have mixed : Try.prog.follows .mixedOrders = true := by kernel_rfl
            have hs0 : w.heap.size < w6.heap.size := by omega
            have k0 := fun n os => cell_grown (w := w6) (a := ⟨w.heap.size, 0, none⟩) hs0 hp0 n os
            have k1 := fun n os => cell_grown (w := w6) (a := ⟨w.heap.size, 1, none⟩) hs0 hp1 n os
            have k2 := fun n os => cell_grown (w := w6) (a := ⟨w.heap.size, 2, none⟩) hs0 hp2 n os
            have k4 := fun n os => cell_grown (w := w6) (a := ⟨g, k * 6 + 4, none⟩) hg6 c4 n os
            go_wp2_with fail
            go_quiet_grown ((go_at_call 13; refine Calls.grown_of (later_grown _ _ _ _ _ _ (by omega) (by omega) (by omega) (by omega) (by omega))))
            clear k0 k1 k2 k4
            have HRM : Hid (r = duo r x → IntKind.i64.wrap (IntKind.i64.wrap (IntKind.i64.wrap (bu * IntKind.i64.wrap (IntKind.i64.wrap (duo r x - r) + 1)) - wrap64 (lateN (L : Int) r (duo r x))) - bv) = bu) := fun hd => room_due hbu0 hbu1 hd (HB0.out (HFI.out hd))
            obtain ⟨room, hroom⟩ : ∃ y, IntKind.i64.wrap (IntKind.i64.wrap (IntKind.i64.wrap (bu * IntKind.i64.wrap (IntKind.i64.wrap (duo r x - r) + 1)) - wrap64 (lateN (L : Int) r (duo r x))) - bv) = y := ⟨_, rfl⟩
            rw [hroom]
            have HRM2 : Hid (r = duo r x → room = bu) := by rw [← hroom]; exact HRM
            clear HRM hroom
            have hgr : w6.grownBy (grow (w6.drewN nq) osq) none := ⟨rfl, rfl, rfl, (below_grow w6 nq osq).size, fun k hk _ => (below_grow w6 nq osq).block k hk⟩
            generalize grow (w6.drewN nq) osq = w7 at hgr ⊢
            have hrow7 := Row.block HRW.out (hgr.block g hg6 (by simp))
            have hp7 : Hid (PlanAt w7 w.heap.size ln L bu) := PlanAt.block ⟨hp0, hp1, hp2⟩ (hgr.block _ (by omega) (by simp))
            have hB7 := hB6.grown hgr (by omega) (by simp)
            have hg7 : g < w7.heap.size := Nat.lt_of_lt_of_le hg6 hgr.size
            have d5 : w7.cell? ⟨g, k * 6 + 5, none⟩ = some (.int .i64 (topW L r x - lowW L r x)) := (hrow7 k hlt 5 (by omega)).1.trans (by simp)
            have f7 := (hrow7 k hlt 5 (by omega)).2
            have HR7 : Hid _ := hrow7
            clear hrow7 HRW hp0 hp1 hp2 hB6 hg6 c3 c4 c5 f5 hgr hs0
            go_wp2_with fail
            go_roundw
            case rel =>
              refine ⟨k + 1, _, fun i => if i = k then min (topW L r x - lowW L r x) (max room 0) else U i, by omega, by go_num, rfl, fun h => absurd h (by omega), ?_, ?_, ?_, ?_, ?_⟩
              · exact okU_step HUU.out (by rw [HXE.out]; exact okU_old hbr room HRM2.out)
              · exact Row.congr (Row.set HR7.out hlt (by omega) _) (rowU_step2 L r (L - 1) U k _ _ _)
              · exact PlanAt.block hp7.out (Below.heap_setCell _ _ _ _ (by simp; omega))
              · exact hB7.setCell (by simp; omega) _
              · simpa using hg7
            case measure => simp [intOf]; omega
          · go_wp2_with fail
            go_roundw
            case rel =>
              refine ⟨k + 1, _, fun i => if i = k then topW L r x - lowW L r x else U i, by omega, by go_num, rfl, fun h => absurd h (by omega), ?_, ?_, ?_, ?_, ?_⟩
              · exact okU_step HUU.out (by rw [HXE.out]; exact okU_new hbr)
              · exact Row.congr HRW.out (rowU_step1 L r (L - 1) U k _ _)
              · exact ⟨hp0, hp1, hp2⟩
              · exact hB6
              · exact hg6
            case measure => simp [intOf]; omega
        · obtain rfl : k = (sorL r (L - 1)).length := by omega
          go_wp2_with fail
          go_ret
          exact ⟨⟨g, cap, U, rfl, hU, hrow, by omega, hg⟩, hB⟩
end Go.Proofs.Qxb6604778a
