/-
  THE WALKS of 'held' and 'ZZHeld'.
-/
import Derived.Test.Qxb6604778aHt
namespace Go.Proofs.Qxb6604778a
open Go.RowKit Go.Sort

theorem own_lower {w : World} {base base' e size : Nat} {v : Value} {n : Nat} {xs : List Value} (h : (v = .slice none 0 0 ∧ n = 0) ∨ ∃ g cap cur, v = .slice (some ⟨g, 0, none⟩) n cap ∧ base ≤ g ∧ w.heap[g]? = some (.cells cur e (0, 0)) ∧ n ≤ cap ∧ cap ≤ maxLen ∧ cur.size = cap * size ∧ cur.toList.take (n * size) = xs) (hb : base' ≤ base) :
    (v = .slice none 0 0 ∧ n = 0) ∨ ∃ g cap cur, v = .slice (some ⟨g, 0, none⟩) n cap ∧ base' ≤ g ∧ w.heap[g]? = some (.cells cur e (0, 0)) ∧ n ≤ cap ∧ cap ≤ maxLen ∧ cur.size = cap * size ∧ cur.toList.take (n * size) = xs := by
  rcases h with h | ⟨g, cap, cur, h1, h2, h3⟩
  · exact .inl h
  · exact .inr ⟨g, cap, cur, h1, Nat.le_trans hb h2, h3⟩
theorem walk_facts {L : Nat} {r : Int} {n k : Nat} {U : Nat → Int} (hk : k < (sorL r n).length) (hn : n ≤ 61) : ∃ x : Nat, (sorL r n).getD k 0 = x ∧ x < n ∧ x ≤ 60 ∧
    rowU L r n U (sorL r n).length k 0 = (x : Int) + 2 ∧ rowU L r n U (sorL r n).length k 1 = lowW L r x ∧ rowU L r n U (sorL r n).length k 2 = topW L r x ∧ rowU L r n U (sorL r n).length k 3 = bgn r x ∧ rowU L r n U (sorL r n).length k 4 = duo r x ∧ rowU L r n U (sorL r n).length k 5 = U k := by
  have hm := sorL_getD_mem hk
  obtain ⟨x, hx⟩ : ∃ x, (sorL r n).getD k 0 = x := ⟨_, rfl⟩
  have h60 : x ≤ 60 := by omega
  have m : min x 60 = x := by omega
  unfold rowU
  rw [hx, if_pos hk]
  refine ⟨x, rfl, by omega, h60, ?_⟩
  simp [fldK, m]
/-- what an append of one element leaves: the list grown; every other old block as it was. -/
theorem app_facts {w wr w4 : World} {o : Obj} {B : Nat} {g cap g4 cap4 : Nat} {A : List Int} {q : Int} (hB : Below B w wr) (hBz : B + 1 ≤ wr.heap.size) (hbg : B + 1 ≤ g)
    (hown4 : w4.ownsRow (B + 1) 3 1 (.slice (some ⟨g4, 0, none⟩) (A.length + 1) cap4) (A.length + 1) (A.flatMap enc1 ++ [.int .i64 q])) (hgr4 : (wr.alloc o).grownBy w4 (Value.ownBlock (.slice (some ⟨g, 0, none⟩) A.length cap))) (hat4 : Value.ownBlock (.slice (some ⟨g, 0, none⟩) A.length cap) = some g4 ∨ g4 = wr.heap.size + 1) :
    Own1 w4 (B + 1) g4 cap4 (A ++ [q]) ∧ (∀ j, j < wr.heap.size → j ≠ g → w4.heap[j]? = wr.heap[j]?) ∧ Below B w w4 ∧ wr.heap.size + 1 ≤ w4.heap.size ∧ (g4 = g ∨ g4 = wr.heap.size + 1) := by
  refine ⟨?_, ?_, ?_, ?_, ?_⟩
  · unfold Own1
    rw [List.flatMap_append, List.length_append]
    exact hown4
  · intro j hj hne
    rw [hgr4.block j (by simp; omega) (by simpa [Value.ownBlock] using hne), heap_alloc_old wr o hj]
  · exact (hB.alloc (by omega) _).grown hgr4 (by simp; omega) (fun j hj => by simp [Value.ownBlock] at hj; omega)
  · have := hgr4.size; simpa using this
  · rcases hat4 with h | h
    · left; simp [Value.ownBlock] at h; exact h.symm
    · exact .inr h
theorem sorL_len_le (r : Int) (n : Nat) : (sorL r n).length ≤ n := by
  have := openL_length r n
  have := (sorL_perm r n).length_eq
  omega
theorem lowP_wrap {L : Nat} {r : Int} (hr0 : 0 ≤ r) (hr : r < pw L) (p2 : pw L ≤ 4611686018427387904) {k : Nat} (hk : k ≤ L) :
    IntKind.i64.wrap (pw L - IntKind.i64.wrap (IntKind.i64.wrap (r / (2 : Int) ^ k + 1) * (2 : Int) ^ k)) = lowP L r k := by
  have d1 : 0 ≤ r / (2 : Int) ^ k ∧ r / (2 : Int) ^ k ≤ r := div_bd2 hr0 k
  obtain ⟨b1, b2, b3⟩ := lowP_bd hr0 hr hk
  have b1' : 0 ≤ (r / (2 : Int) ^ k + 1) * (2 : Int) ^ k := b1
  have b2' : (r / (2 : Int) ^ k + 1) * (2 : Int) ^ k ≤ pw L := b2
  rw [wrap_i64 (r / (2 : Int) ^ k + 1), IntWalk.wrap64_in (r / (2 : Int) ^ k + 1) ⟨by omega, by omega⟩]
  generalize hq : (r / (2 : Int) ^ k + 1) * (2 : Int) ^ k = q at b1' b2'
  rw [wrap_i64 q, IntWalk.wrap64_in q ⟨by omega, by omega⟩, wrap_i64, IntWalk.wrap64_in (pw L - q) ⟨by omega, by omega⟩, ← hq]
  rfl
theorem keep_far {wr w3 w4 : World} {o : Obj} {B g n cap : Nat} {ln lv bu : Int} (h3 : wr.drew.grownBy w3 none) (h4 : (w3.alloc o).grownBy w4 (Value.ownBlock (.slice (some ⟨g, 0, none⟩) n cap))) (hB : B < wr.heap.size) (hne : ¬ B = g)
    (p0 : wr.cell? ⟨B, 0, none⟩ = some (.int .i64 ln)) (p1 : wr.cell? ⟨B, 1, none⟩ = some (.int .i64 lv)) (p2 : wr.cell? ⟨B, 2, none⟩ = some (.int .i64 bu)) :
    w4.cell? ⟨B, 0, none⟩ = some (.int .i64 ln) ∧ w4.cell? ⟨B, 1, none⟩ = some (.int .i64 lv) ∧ w4.cell? ⟨B, 2, none⟩ = some (.int .i64 bu) := by
  have hs : B < w3.heap.size := Nat.lt_of_lt_of_le hB h3.size
  have hb : w4.heap[B]? = wr.heap[B]? := by
    rw [h4.block B (by simp; omega) (by simpa [Value.ownBlock] using hne), heap_alloc_old w3 o hs, h3.block B hB (by simp)]
    rfl
  exact PlanAt.block ⟨p0, p1, p2⟩ hb

set_option maxRecDepth 100000 in
set_option maxHeartbeats 1000000 in
theorem held_any (ln bu r : Int) (L h caph : Nat) (U : Nat → Int) (hL : L ≤ 62) (hr0 : 0 ≤ r) (hr : r < pw L) (w : World) (hh : h < w.heap.size) (hU : ∀ i, i < (sorL r (L - 1)).length → okU L r bu ((sorL r (L - 1)).getD i 0) (U i)) (hrow : Row w h 6 (sorL r (L - 1)).length (rowU L r (L - 1) U (sorL r (L - 1)).length)) :
    Calls Try.prog 17 #[.agg #[.int .i64 ln, .int .i64 L, .int .i64 bu], .int .i64 r, .slice (some ⟨h, 0, none⟩) (sorL r (L - 1)).length caph] w fun e w' =>
      (∃ (g cap : Nat) (A : List Int), e = .returned (.slice (some ⟨g, 0, none⟩) (heldOut A).length cap) ∧ Own1 w' w.heap.size g cap (heldOut A) ∧ Held (pw L - 1 - r) (max bu 0) A) ∧ Below w.heap.size w w' := by
  have p1 := pw_pos L
  have p2 : pw L ≤ 4611686018427387904 := by rw [← pw_62]; exact pw_mono (by omega)
  obtain ⟨i0, hi, hz0, hz1, hz2⟩ := info_parts Try.info3
  have HR : Hid _ := hrow
  have HU : Hid _ := hU
  clear hrow hU
  go_enter Try.func17, Try.ntmps17
  go_wp2_with fail
  refine (span_below _ _ _ hL _).mono ?_
  rintro e w1 ⟨rfl, hb1⟩
  have hB1 : Below w.heap.size w w1 := ((Below.refl _ _).alloc (Nat.le_refl _) _).trans (hb1.mono (by simp))
  have hz : w.heap.size + 1 ≤ w1.heap.size := by have := hb1.size; simpa using this
  have hpl : PlanAt w1 w.heap.size ln L bu := by
    refine ⟨?_, ?_, ?_⟩ <;> (rw [hb1.cell (by simp)]; simp)
  obtain ⟨hp0, hp1, hp2⟩ := hpl
  clear hb1
  go_wp2_with (at_make; refine wpList_make_own _ rfl _ _ 34 rfl (w.heap.size + 1) 3 i0 _ 1 Try.underlying34 hi hz0 hz1 .i64 .i64 (2 * (L : Int) + 2) (2 * L + 2) rfl rfl (by omega) (by rw [hz2]; omega) (by unfold maxLen; omega) hz ?_; intro w2 hown2 hgr2)
  have hst : PlanAt w2 w.heap.size ln L bu := PlanAt.block ⟨hp0, hp1, hp2⟩ (hgr2.block _ (by omega) (by simp))
  have hB2 : Below w.heap.size w w2 := hB1.grown hgr2 (by omega) (by simp)
  have hz2' : w.heap.size + 1 ≤ w2.heap.size := Nat.le_trans hz hgr2.size
  clear hp0 hp1 hp2 hB1
  go_loopw [7, 8] (fun v j wr => ∃ k g cap : Nat, k ≤ L + 1 ∧ j = .int .i64 k ∧ v = .slice (some ⟨g, 0, none⟩) (lowsL L r k).length cap ∧ Own1 wr (w.heap.size + 1) g cap (lowsL L r k) ∧ PlanAt wr w.heap.size ln L bu ∧ Below w.heap.size w wr ∧ w.heap.size + 1 ≤ wr.heap.size) (fun _ j _ => 100 - (intOf j).toNat)
  case atStart => exact ⟨0, w1.heap.size, 2 * L + 2, Nat.zero_le _, rfl, rfl, hown2, hst, hB2, hz2'⟩
  case round =>
    clear hown2 hgr2 hst hB2 hz2' hz
    obtain ⟨k, g, cap, hk, rfl, rfl, hown, ⟨hp0, hp1, hp2⟩, hB, hz⟩ := hrel
    have hgb := hown.facts.2.2.2
    have hgl := hown.lt
    by_cases hlt : k ≤ L
    · have q1 := pw_pos k
      have d1 := div_bd2 hr0 k
      obtain ⟨b1, b2, b3⟩ := lowP_bd hr0 hr hlt
      have hltz : (k : Int) ≤ (L : Int) := by omega
      have hs0 : w.heap.size < wr.heap.size := by omega
      have hne : ¬ w.heap.size = g := by omega
      go_wp2_with fail
      go_region_held3 (fun w' => w'.cell? ⟨w.heap.size, 0, none⟩ = some (.int .i64 ln) ∧ w'.cell? ⟨w.heap.size, 1, none⟩ = some (.int .i64 L) ∧ w'.cell? ⟨w.heap.size, 2, none⟩ = some (.int .i64 bu)) (first | go_keep | exact ⟨(hgr3.cell_far _ (by exact hs0) (by simp)).trans hp0, (hgr3.cell_far _ (by exact hs0) (by simp)).trans hp1, (hgr3.cell_far _ (by exact hs0) (by simp)).trans hp2⟩ | exact keep_far hgr3 hgr4 hs0 hne hp0 hp1 hp2) (first | (go_at_call 19; refine (span_gb _ _ _ hL _).mono ?_; rintro e w3 ⟨rfl, hgr3⟩) | (refine step_append_lies _ (by rfl) _ _ _ (by rfl) (w.heap.size + 1) 3 i0 _ 1 8 Try.underlying34 hi hz0 hz1 hz2 rfl (by omega) _ _ _ (by rfl) ((World.ownsRow.kept (w := wr.drew) hown hgr3 (by simp [Value.ownBlock])).alloc _) ⟨w3.heap.size, 0, none⟩ 1 1 [.int .i64 _] (by rfl) (by rfl) (World.news_of_block (cs := #[.int .i64 _]) (heap_alloc_new w3 _)) (by simp [Value.oneCell']) (by omega) (by rw [lowsL_len]; unfold maxLen; omega) (by rw [lowsL_len]; omega) (by have := hgr3.size; simp at this; simp; omega) (w3.heap.size + 1) (by simp) ?_; intro g4 cap4 w4 hown4 hgr4 hat4 hlt4))
      have HV : Hid (IntKind.i64.wrap (pw L - IntKind.i64.wrap (IntKind.i64.wrap (r / (2 : Int) ^ k + 1) * (2 : Int) ^ k)) = lowP L r k) := lowP_wrap hr0 hr p2 hlt
      have hown5 : Hid (Own1 w4 (w.heap.size + 1) g4 cap4 (lowsL L r (k + 1))) := by
        refine (?_ : World.ownsRow _ _ _ _ _ _ _)
        rw [lowsL_succ, List.flatMap_append, List.length_append]
        rw [HV.out] at hown4
        exact hown4
      have hp4 : Hid (PlanAt w4 w.heap.size ln L bu) := keep_far hgr3 hgr4 hs0 hne hp0 hp1 hp2
      have hB4 : Below w.heap.size w w4 := ((hB.drew.grown hgr3 (by exact Nat.le_of_lt hs0) (by simp)).alloc (by have := hgr3.size; simp at this; omega) _).grown hgr4 (by have := hgr3.size; simp at this; simp; omega) (fun j hj => by simp [Value.ownBlock] at hj; omega)
      have hz4 : w.heap.size + 1 ≤ w4.heap.size := by have := hgr3.size; have := hgr4.size; simp at *; omega
      have HS : Hid ((lowsL L r k).length + 1 = (lowsL L r (k + 1)).length) := by refine (?_ : _ = _); rw [lowsL_len, lowsL_len]
      clear hown4 hgr4 hat4 hlt4 hgr3 hown hp0 hp1 hp2 hB HV
      go_wp2_with fail
      go_roundw
      case rel => exact ⟨k + 1, g4, cap4, by omega, by go_num, by rw [← HS.out], hown5.out, hp4.out, hB4, hz4⟩
      case measure => simp [intOf]; omega
    · obtain rfl : k = L + 1 := by omega
      have hst := heldAt_start (L := L) (bu := bu) hr0 hr
      have hln : (lowsL L r (L + 1)).length ≤ 63 := by rw [lowsL_len]; omega
      have hrw := Row.below HR.out hB hh
      have HR2 : Hid _ := hrw
      have HA : Hid (HeldAt L r bu 0 (lowsL L r (L + 1))) := hst
      generalize lowsL L r (L + 1) = A0 at hown HA hln ⊢
      clear hst hrw
      have hN := sorL_len_le r (L - 1)
      have hhr : h < wr.heap.size := by omega
      go_wp2_with fail
      clear hp0 hp1 hp2
      go_loopw [7, 43] (fun v iv wr => ∃ (i g cap : Nat) (A : List Int), i ≤ (sorL r (L - 1)).length ∧ iv = .int .i64 i ∧ v = .slice (some ⟨g, 0, none⟩) A.length cap ∧ A.length ≤ 63 + 64 * i ∧ Own1 wr (w.heap.size + 1) g cap A ∧ HeldAt L r bu i A ∧ Row wr h 6 (sorL r (L - 1)).length (rowU L r (L - 1) U (sorL r (L - 1)).length) ∧ Below w.heap.size w wr ∧ w.heap.size + 1 ≤ wr.heap.size) (fun _ iv _ => 100 - (intOf iv).toNat)
      case atStart => exact ⟨0, g, cap, A0, Nat.zero_le _, rfl, rfl, by omega, hown, HA.out, HR2.out, hB, hz⟩
      case round =>
        clear hown HA HR2 hB hz hgb hgl hln hhr
        obtain ⟨i, g, cap, A, hi2, rfl, rfl, hAl, hown, hat, hrw, hB, hz⟩ := hrel
        have HA : Hid (HeldAt L r bu i A) := hat
        have HRW : Hid _ := hrw
        by_cases hlt : i < (sorL r (L - 1)).length
        · obtain ⟨x, hx, hxn, hx60, r0, r1, r2, r3, r4, r5⟩ := walk_facts (L := L) (U := U) hlt (by omega)
          have c0 := (hrw i hlt 0 (by omega)).1
          have c1 := (hrw i hlt 1 (by omega)).1
          have c2 := (hrw i hlt 2 (by omega)).1
          have c3 := (hrw i hlt 3 (by omega)).1
          have c4 := (hrw i hlt 4 (by omega)).1
          have c5 := (hrw i hlt 5 (by omega)).1
          rw [r0, Nat.add_zero] at c0
          rw [r1] at c1
          rw [r2] at c2
          rw [r3] at c3
          rw [r4] at c4
          rw [r5] at c5
          have hok := HU.out i hlt
          have HOK : Hid _ := hok
          have HX : Hid ((sorL r (L - 1)).getD i 0 = x) := hx
          have hg0 := hown.facts.2.2.2
          have hg1 := hown.lt
          have hhr : h < wr.heap.size := by omega
          have hltz : (i : Int) < ((sorL r (L - 1)).length : Int) := by omega
          clear hrw hat r0 r1 r2 r3 r4 r5 hok hx
          by_cases hbr : bgn r x = r
          · have t1 : (bgn r x == r) = true := by simp [hbr]
            have HA2 : Hid (HeldAt L r bu (i + 1) A) := by
              rcases HeldAt.pass HA.out with h | h
              · exact h
              · rw [HX.out] at h; exact absurd hbr h
            clear hbr
            go_wp2_with fail
            go_roundw
            case rel => exact ⟨i + 1, g, cap, A, by omega, by go_num, rfl, by omega, World.ownsRow.alloc hown _, HA2.out, Row.alloc HRW.out hhr _, hB.alloc (by omega) _, by simp; omega⟩
            case measure => simp [intOf]; omega
          · have t1 : (bgn r x == r) = false := by simp [hbr]
            have hbl : bgn r x < r := by have := bgn_le r x; omega
            have HBL : Hid (bgn r x < r) := hbl
            have hxL : x + 2 ≤ L := by omega
            have hdu : r ≤ duo r x := by have := (sorL_getD_mem hlt).2; rw [HX.out] at this; exact this
            have l0 : 0 ≤ lowW L r x := low_nonneg hxL hr
            have tt : topW L r x ≤ pw L - 1 - r := by rw [top_eq]; omega
            have tl : topW L r x - lowW L r x = pw (x + 1) - 1 := top_sub_low L r x
            have hok := HOK.out
            rw [HX.out] at hok
            obtain ⟨_, _, u3, u4⟩ := hok
            unfold full at u4
            have TL : Hid (topW L r x - lowW L r x = pw (x + 1) - 1) := tl
            have t0 : 0 ≤ topW L r x := by omega
            have t1' : topW L r x ≤ 4611686018427387904 := by omega
            have rc0 : 0 ≤ topW L r x - U i := by omega
            have rc1 : topW L r x - U i ≤ topW L r x := by omega
            clear hbr hbl tl
            go_wp2_with fail
            refine (del1 (w.heap.size + 1) g cap A (by omega) (topW L r x - U i) (topW L r x) (wr.heap.size + 1) wr.heap.size _ (World.ownsRow.alloc (World.ownsRow.alloc hown _) _) (by simp) (by simp; omega) (by omega) (by omega) (by simp) (by simp)).mono ?_
            rintro e w5 ⟨rfl, hown5, hgr5⟩
            have e0 : w5.cell? ⟨wr.heap.size, 0, none⟩ = some (.int .i64 ((x : Int) + 2)) := (hgr5.cell_far _ (by simp; omega) (by simp; omega)).trans (by simp)
            have e2 : w5.cell? ⟨wr.heap.size, 2, none⟩ = some (.int .i64 (topW L r x)) := (hgr5.cell_far _ (by simp; omega) (by simp; omega)).trans (by simp)
            have f0 : w5.cell? ⟨wr.heap.size + 1, 0, none⟩ = some (.int .i64 (topW L r x - U i)) := (hgr5.cell_far _ (by simp) (by simp; omega)).trans (by simp)
            have hB5 : Below w.heap.size w w5 := ((hB.alloc (by omega) _).alloc (by simp; omega) _).grown hgr5 (by simp; omega) (fun j hj => by simp at hj; omega)
            have HR5 : Hid (Row w5 h 6 (sorL r (L - 1)).length (rowU L r (L - 1) U (sorL r (L - 1)).length)) := Row.block (Row.alloc (Row.alloc HRW.out hhr _) (by simp; omega) _) (hgr5.block h (by simp; omega) (by simp; omega))
            have hz5 : wr.heap.size + 2 ≤ w5.heap.size := by have := hgr5.size; simp at this; omega
            obtain ⟨A1, hA1⟩ : ∃ A1, cutL (topW L r x - U i) (topW L r x) A = A1 := ⟨_, rfl⟩
            have HC : Hid (cutL (topW L r x - U i) (topW L r x) A = A1) := hA1
            have hA1l : A1.length ≤ A.length := by rw [← hA1]; exact List.length_filter_le _ _
            rw [hA1] at hown5 ⊢
            have HT : Hid (∀ q, q ∈ A1 → 0 ≤ q ∧ q ≤ pw L - 1 - r) := fun q hq => by rw [← HC.out] at hq; exact HA.out.2.1 q (mem_cutL.1 hq).1
            obtain ⟨bb, hbb⟩ : ∃ bb, wr.heap.size = bb := ⟨_, rfl⟩
            rw [hbb] at e0 e2 f0 hz5 hg1 ⊢
            have hbz : w.heap.size + 1 ≤ bb := by omega
            clear hA1 hgr5 hown hB HRW c0 c1 c2 c3 c4 c5 hz hhr hbb
            go_wp2_with fail
            go_loopw [7, 61] (fun v kv wr => ∃ (k g cap : Nat) (B : List Int), k ≤ x + 2 ∧ kv = .int .i64 k ∧ v = .slice (some ⟨g, 0, none⟩) B.length cap ∧ B.length ≤ A1.length + k ∧ Own1 wr (w.heap.size + 1) g cap B ∧ Hid ((∀ q, q ∈ A1 → q ∈ B) ∧ (∀ q, q ∈ B → 0 ≤ q ∧ q ≤ pw L - 1 - r)) ∧ wr.cell? ⟨bb, 0, none⟩ = some (.int .i64 ((x : Int) + 2)) ∧ wr.cell? ⟨bb, 2, none⟩ = some (.int .i64 (topW L r x)) ∧ wr.cell? ⟨bb + 1, 0, none⟩ = some (.int .i64 (topW L r x - U i)) ∧ ¬ g = bb ∧ ¬ g = bb + 1 ∧ Hid (Row wr h 6 (sorL r (L - 1)).length (rowU L r (L - 1) U (sorL r (L - 1)).length)) ∧ Below w.heap.size w wr ∧ bb + 2 ≤ wr.heap.size) (fun _ kv _ => 100 - (intOf kv).toNat)
            case atStart => exact ⟨0, g, cap, A1, Nat.zero_le _, rfl, rfl, by omega, hown5, ⟨fun _ h => h, HT.out⟩, e0, e2, f0, by omega, by omega, HR5, hB5, hz5⟩
            case round =>
              clear hown5 e0 e2 f0 HR5 hB5 hz5 hg0 hg1
              obtain ⟨k, g, cap, B, hk, rfl, rfl, hBl, hown, HBB, e0, e2, f0, n1, n2, HRW, hB, hz⟩ := hrel
              have hg0 := hown.facts.2.2.2
              have hg1 := hown.lt
              by_cases hkl : k < x + 2
              · have hklz : (k : Int) < (x : Int) + 2 := by omega
                have qk := pw_pos k
                have qm : pw k ≤ pw (x + 1) := pw_mono (by omega)
                have hq0 : 0 ≤ topW L r x + 1 - pw k := by have := TL.out; omega
                have HQ : Hid (wrap64 (topW L r x + 1 - wrap64 ((2 : Int) ^ k)) = topW L r x + 1 - pw k) := by
                  refine (?_ : _ = _)
                  rw [wrap_pw (by omega), IntWalk.wrap64_in _ ⟨by omega, by omega⟩]
                go_wp2_with fail
                go_quiet (fail)
                rw [HQ.out]
                by_cases hqr : topW L r x + 1 - pw k < topW L r x - U i
                · go_wp2_with (at_builtin; refine wpList_append_lies _ rfl (.tmp 73) (.tmp 75) 34 rfl (w.heap.size + 1) 3 i0 _ 1 8 Try.underlying34 hi hz0 hz1 hz2 rfl (by decide) _ _ _ rfl (World.ownsRow.alloc (w := wr.drewN nq) hown _) ⟨wr.heap.size, 0, none⟩ 1 1 [.int .i64 (topW L r x + 1 - pw k)] rfl rfl (World.news_of_block (heap_alloc_new (wr.drewN nq) _)) ?c2 (by decide) ?c3 ?c4 ?c5 (wr.heap.size + 1) (by simp) ?_)
                  case c2 => intro u hu; simp at hu; subst hu; rfl
                  case c3 => unfold maxLen; omega
                  case c4 => omega
                  case c5 => simp; omega
                  intro g4 cap4 w4 hown4 hgr4 hat4 hlt4
                  obtain ⟨hown5, hkeep, hB5, hz5, hg5⟩ := app_facts (below_drewN hB nq) (show w.heap.size + 1 ≤ (wr.drewN nq).heap.size by show w.heap.size + 1 ≤ wr.heap.size; omega) hg0 hown4 hgr4 hat4
                  have hz6 : wr.heap.size + 1 ≤ w4.heap.size := hz5
                  have k1 : w4.heap[bb]? = wr.heap[bb]? := hkeep bb (by show bb < wr.heap.size; omega) (fun e => n1 e.symm)
                  have k2 : w4.heap[bb + 1]? = wr.heap[bb + 1]? := hkeep (bb + 1) (by show bb + 1 < wr.heap.size; omega) (fun e => n2 e.symm)
                  have kh : w4.heap[h]? = wr.heap[h]? := hkeep h (by show h < wr.heap.size; omega) (by omega)
                  have E0 : Hid (w4.cell? ⟨bb, 0, none⟩ = some (.int .i64 ((x : Int) + 2))) := (World.cell?_of_block (w := wr) (a := ⟨bb, 0, none⟩) k1).trans e0
                  have E2 : Hid (w4.cell? ⟨bb, 2, none⟩ = some (.int .i64 (topW L r x))) := (World.cell?_of_block (w := wr) (a := ⟨bb, 2, none⟩) k1).trans e2
                  have F0 : Hid (w4.cell? ⟨bb + 1, 0, none⟩ = some (.int .i64 (topW L r x - U i))) := (World.cell?_of_block (w := wr) (a := ⟨bb + 1, 0, none⟩) k2).trans f0
                  have HR6 : Hid (Row w4 h 6 (sorL r (L - 1)).length (rowU L r (L - 1) U (sorL r (L - 1)).length)) := Row.block HRW.out kh
                  have HO5 : Hid (Own1 w4 (w.heap.size + 1) g4 cap4 (B ++ [topW L r x + 1 - pw k])) := hown5
                  have HB6 : Hid ((∀ q, q ∈ A1 → q ∈ B ++ [topW L r x + 1 - pw k]) ∧ (∀ q, q ∈ B ++ [topW L r x + 1 - pw k] → 0 ≤ q ∧ q ≤ pw L - 1 - r)) :=
                    ⟨fun q hq => List.mem_append_left _ (HBB.out.1 q hq), fun q hq => (List.mem_append.1 hq).elim (fun h => HBB.out.2 q h) (fun h => by rw [List.mem_singleton] at h; omega)⟩
                  have hg5' : g4 = g ∨ g4 = wr.heap.size + 1 := hg5
                  clear hown4 hgr4 hat4 hlt4 hown5 hkeep hz5 hg5 k1 k2 kh hown e0 e2 f0 hB HRW HBB
                  go_wp2_with fail
                  go_roundw
                  case rel => exact ⟨k + 1, g4, cap4, B ++ [topW L r x + 1 - pw k], by omega, by go_num, by simp, by simp; omega, HO5.out, HB6, E0.out, E2.out, F0.out, by omega, by omega, HR6, hB5, by omega⟩
                  case measure => simp [intOf]; omega
                · have hown' : Hid (Own1 (wr.drewN nq) (w.heap.size + 1) g cap B) := hown
                  go_wp2_with fail
                  go_roundw
                  case rel => exact ⟨k + 1, g, cap, B, by omega, by go_num, rfl, by omega, hown'.out, HBB, by simpa using e0, by simpa using e2, by simpa using f0, n1, n2, HRW, below_drewN hB nq, by exact hz⟩
                  case measure => simp [intOf]; omega
              · obtain rfl : k = x + 2 := by omega
                go_wp2_with (at_builtin; refine wpList_append_lies _ rfl (.tmp 78) (.tmp 80) 34 rfl (w.heap.size + 1) 3 i0 _ 1 8 Try.underlying34 hi hz0 hz1 hz2 rfl (by decide) _ _ _ rfl (World.ownsRow.alloc hown _) ⟨wr.heap.size, 0, none⟩ 1 1 [.int .i64 (topW L r x - U i)] rfl rfl (World.news_of_block (heap_alloc_new wr _)) ?c2 (by decide) ?c3 ?c4 ?c5 (wr.heap.size + 1) (by simp) ?_)
                case c2 => intro u hu; simp at hu; subst hu; rfl
                case c3 => unfold maxLen; omega
                case c4 => omega
                case c5 => simp; omega
                intro g4 cap4 w4 hown4 hgr4 hat4 hlt4
                obtain ⟨hown5, hkeep, hB5, hz5, hg5⟩ := app_facts hB (by omega) hg0 hown4 hgr4 hat4
                have kh : w4.heap[h]? = wr.heap[h]? := hkeep h (by omega) (by omega)
                have HR6 : Hid (Row w4 h 6 (sorL r (L - 1)).length (rowU L r (L - 1) U (sorL r (L - 1)).length)) := Row.block HRW.out kh
                have HO5 : Hid (Own1 w4 (w.heap.size + 1) g4 cap4 (B ++ [topW L r x - U i])) := hown5
                have HA6 : Hid (HeldAt L r bu (i + 1) (B ++ [topW L r x - U i])) := by
                  refine HeldAt.next (u := U i) HA.out hlt hr (by rw [HX.out]; exact HBL.out) HOK.out ?_ ?_ ?_
                  · intro q hq hn
                    rw [HX.out] at hn
                    exact List.mem_append_left _ (HBB.out.1 q (by rw [← HC.out]; exact mem_cutL.2 ⟨hq, hn⟩))
                  · rw [HX.out]; simp
                  · intro q hq
                    rcases List.mem_append.1 hq with h | h
                    · exact HBB.out.2 q h
                    · rw [List.mem_singleton] at h; omega
                clear hown4 hgr4 hat4 hlt4 hown5 hkeep kh hown e0 e2 f0 hB HRW HBB hg5
                go_wp2_with fail
                go_roundw
                case rel =>
                  (repeat apply Exists.intro)
                  refine ⟨?_, rfl⟩
                  exact ⟨i + 1, g4, cap4, B ++ [topW L r x - U i], by omega, by go_num, by simp, by simp; omega, HO5.out, HA6.out, HR6.out, hB5, by omega⟩
                case measure => simp [intOf]; omega
        · obtain rfl : i = (sorL r (L - 1)).length := by omega
          clear hat hrw
          go_wp2_with fail
          refine (sort1 _ g cap A (by omega) _ hown).mono ?_
          rintro e w5 ⟨rfl, hown5, hgr5⟩
          have hSl : A.length = (A.mergeSort fun x y => decide (x ≤ y)).length := by rw [List.length_mergeSort]
          obtain ⟨S, hS⟩ : ∃ S, (A.mergeSort fun x y => decide (x ≤ y)) = S := ⟨_, rfl⟩
          rw [hS] at hSl hown5
          have HS : Hid ((A.mergeSort fun x y => decide (x ≤ y)) = S) := hS
          have hSm : S.length ≤ 1000000 := by omega
          rw [hSl]
          clear hSl hS
          go_wp2_with fail
          refine (comp1 _ g cap S hSm _ hown5).mono ?_
          rintro e w6 ⟨rfl, hown6, hgr6⟩
          have hout : Lib.compact S = heldOut A := by unfold heldOut; rw [HS.out]
          rw [hout] at hown6 ⊢
          clear hout HS
          have hbg := hown.facts.2.2.2
          have HO : Hid (Own1 w6 w.heap.size g cap (heldOut A)) := ⟨hown6.1, own_lower hown6.2 (by omega)⟩
          have hB6 : Below w.heap.size w w6 := (hB.grown hgr5 (by omega) (fun j hj => by simp at hj; omega)).grown hgr6 (by have := hgr5.size; omega) (fun j hj => by simp at hj; omega)
          have HH : Hid (Held (pw L - 1 - r) (max bu 0) A) := HeldAt.held HA.out
          clear hown6 hgr5 hgr6 hown5
          go_wp2_with fail
          go_ret
          exact ⟨⟨g, cap, A, rfl, HO.out, HH.out⟩, hB6⟩
end Go.Proofs.Qxb6604778a
