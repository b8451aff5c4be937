/-
  THE WALKS of the law's helpers: the two measures, the two clones, ZZSkip.
-/
import Derived.Test.Qxb6605259aSm
namespace Go.Proofs.Qxb6605259a
open Go.RowKit Go.Maps

set_option maxRecDepth 100000 in
set_option maxHeartbeats 400000 in
/-- zzBytesOfStrings gives some int; nothing turns. -/
theorem size_any (m : Int) (a : Option Addr) (n c g o : Nat) (ss : List ByteArray) (hn : n ≤ 9223372036854775807) (w : World) (h : StrS w a n g o ss) :
    Calls Try.prog 10 #[.int .i64 m, .slice a n c] w fun e w' => (∃ r, e = .returned (.int .i64 r)) ∧ w' = w := by
  have hix := index28 c h.2.1
  have HC : Hid _ := h.2.2.1
  clear h
  go_enter Try.func10, Try.ntmps10
  go_wp2
  go_loop [0, 5] (fun s i => ∃ (k : Nat) (q : Int), k ≤ n ∧ i = .int .i64 k ∧ s = .int .i64 q) (fun _ i => n - (intOf i).toNat)
  case atStart => exact ⟨0, m, Nat.zero_le _, rfl, rfl⟩
  case round =>
    obtain ⟨k, q, hk, rfl, rfl⟩ := hrel
    by_cases hlt : k < n
    · have hc := HC.out k hlt
      have hltz : (k : Int) < (n : Int) := by omega
      go_wp2
      · go_ret
        exact ⟨⟨_, rfl⟩, rfl⟩
      · go_round
        case rel => exact ⟨k + 1, _, by omega, by go_num, rfl⟩
        case measure => simp [intOf]; omega
      · go_ret
        exact ⟨⟨_, rfl⟩, rfl⟩
    · go_wp2
      go_ret
      exact ⟨⟨q, rfl⟩, rfl⟩

/-- some bool is handed back. -/
def RetBool (e : Ending) : Prop := ∃ r, e = .returned (.bool r)

set_option maxRecDepth 100000 in
set_option maxHeartbeats 1000000 in
/-- zzBytes_.. gives some bool; nothing turns. -/
theorem bytes_any (a0 a1 a2 a3 a4 : Option Addr) (n0 n1 n2 n3 n4 c0 c1 c2 c3 c4 g0 g2 g4 o0 o2 o4 : Nat) (s0 s2 s4 : List ByteArray) (w : World)
    (m0 : n0 ≤ 9223372036854775807) (m2 : n2 ≤ 9223372036854775807) (m4 : n4 ≤ 9223372036854775807) (h0 : StrS w a0 n0 g0 o0 s0) (h2 : StrS w a2 n2 g2 o2 s2) (h4 : StrS w a4 n4 g4 o4 s4) :
    Calls Try.prog 9 #[.slice a0 n0 c0, .slice a1 n1 c1, .slice a2 n2 c2, .slice a3 n3 c3, .slice a4 n4 c4] w fun e w' => RetBool e ∧ w' = w := by
  have hix0 := index28 c0 h0.2.1
  have hix2 := index28 c2 h2.2.1
  have hix4 := index28 c4 h4.2.1
  have HC0 : Hid _ := h0.2.2.1
  have HC2 : Hid _ := h2.2.2.1
  have HC4 : Hid _ := h4.2.2.1
  clear h0 h2 h4
  go_enter Try.func9, Try.ntmps9
  go_wp2
  · go_ret
    exact ⟨⟨_, rfl⟩, rfl⟩
  · go_loop [11, 12] (fun s i => ∃ (k : Nat) (q : Int), k ≤ n0 ∧ i = .int .i64 k ∧ s = .int .i64 q) (fun _ i => n0 - (intOf i).toNat)
    case atStart => exact ⟨0, _, Nat.zero_le _, rfl, rfl⟩
    case round =>
      obtain ⟨k, q, hk, rfl, rfl⟩ := hrel
      by_cases hlt : k < n0
      · have hc := HC0.out k hlt
        have hltz : (k : Int) < (n0 : Int) := by omega
        go_wp2
        · go_ret
          exact ⟨⟨_, rfl⟩, rfl⟩
        · go_ret
          exact ⟨⟨_, rfl⟩, rfl⟩
        · go_round
          case rel => exact ⟨k + 1, _, by omega, by go_num, rfl⟩
          case measure => simp [intOf]; omega
      · clear hix0 HC0
        go_wp2
        · go_ret
          exact ⟨⟨_, rfl⟩, rfl⟩
        · go_ret
          exact ⟨⟨_, rfl⟩, rfl⟩
        · go_ret
          exact ⟨⟨_, rfl⟩, rfl⟩
        · go_ret
          exact ⟨⟨_, rfl⟩, rfl⟩
        · go_loop [11, 13] (fun s i => ∃ (k : Nat) (q : Int), k ≤ n2 ∧ i = .int .i64 k ∧ s = .int .i64 q) (fun _ i => n2 - (intOf i).toNat)
          case atStart => exact ⟨0, _, Nat.zero_le _, rfl, rfl⟩
          case round =>
            obtain ⟨k, q, hk, rfl, rfl⟩ := hrel
            by_cases hlt : k < n2
            · have hc := HC2.out k hlt
              have hltz : (k : Int) < (n2 : Int) := by omega
              go_wp2
              · go_ret
                exact ⟨⟨_, rfl⟩, rfl⟩
              · go_ret
                exact ⟨⟨_, rfl⟩, rfl⟩
              · go_round
                case rel => exact ⟨k + 1, _, by omega, by go_num, rfl⟩
                case measure => simp [intOf]; omega
            · clear hix2 HC2
              go_wp2
              · go_ret
                exact ⟨⟨_, rfl⟩, rfl⟩
              · go_ret
                exact ⟨⟨_, rfl⟩, rfl⟩
              · go_ret
                exact ⟨⟨_, rfl⟩, rfl⟩
              · go_ret
                exact ⟨⟨_, rfl⟩, rfl⟩
              · go_loop [11, 14] (fun s i => ∃ (k : Nat) (q : Int), k ≤ n4 ∧ i = .int .i64 k ∧ s = .int .i64 q) (fun _ i => n4 - (intOf i).toNat)
                case atStart => exact ⟨0, _, Nat.zero_le _, rfl, rfl⟩
                case round =>
                  obtain ⟨k, q, hk, rfl, rfl⟩ := hrel
                  by_cases hlt : k < n4
                  · have hc := HC4.out k hlt
                    have hltz : (k : Int) < (n4 : Int) := by omega
                    go_wp2
                    · go_ret
                      exact ⟨⟨_, rfl⟩, rfl⟩
                    · go_ret
                      exact ⟨⟨_, rfl⟩, rfl⟩
                    · go_round
                      case rel => exact ⟨k + 1, _, by omega, by go_num, rfl⟩
                      case measure => simp [intOf]; omega
                  · go_wp2
                    go_ret
                    exact ⟨⟨_, rfl⟩, rfl⟩

/-- n cells of any value lie in block B from its head on, and may be written. -/
def VRow (w : World) (B n : Nat) (F : Nat → Value) : Prop := ∀ j, j < n → w.cell? ⟨B, j, none⟩ = some (F j) ∧ w.frozen? ⟨B, j, none⟩ = false
theorem VRow.congr {w : World} {B n : Nat} {F G : Nat → Value} (h : VRow w B n F) (e : ∀ j, j < n → F j = G j) : VRow w B n G := fun j hj => by rw [← e j hj]; exact h j hj
theorem VRow.set {w : World} {B n : Nat} {F : Nat → Value} (h : VRow w B n F) {k : Nat} (hk : k < n) (v : Value) : VRow (w.setCell ⟨B, k, none⟩ v) B n (fun j => if j = k then v else F j) := by
  intro j hj
  refine ⟨?_, by rw [World.frozen?_setCell]; exact (h j hj).2⟩
  by_cases e : j = k
  · subst e; rw [World.cell?_setCell_same _ _ _ (h j hj).1]; simp
  · rw [World.cell?_setCell_other _ _ _ _ (fun q => e (by simpa using q.symm)), (h j hj).1]; simp [e]
theorem vrow_made (w : World) (n : Nat) (e : TypeId) (z : Value) : VRow (w.alloc (.cells (madeCells #[z] n) e)) w.heap.size n (fun _ => z) := by
  intro j hj
  have hb := heap_alloc_new w (.cells (madeCells #[z] n) e)
  have key : ∀ (W : World), W.heap[w.heap.size]? = some (.cells (madeCells #[z] n) e) → W.cell? ⟨w.heap.size, j, none⟩ = some z ∧ W.frozen? ⟨w.heap.size, j, none⟩ = false := by
    intro W hW
    refine ⟨?_, by simp [World.frozen?, hW]⟩
    rw [cell_of_row W _ _ _ _ _ hW]
    unfold madeCells
    rw [Array.getElem?_map, Array.getElem?_range, if_pos hj]
    simp [Nat.mod_one]
  exact key _ hb

theorem Try.info9 : (Try.prog.info? 9).map (fun i => (i.zero, i.size, i.bytes)) = some (some (.string ByteArray.empty), 1, 16) := by kernel_rfl
set_option maxRecDepth 100000 in
set_option maxHeartbeats 400000 in
theorem clone_strs (a : Option Addr) (n c g o : Nat) (ss : List ByteArray) (hn : n ≤ 65536) (w : World) (hg : n = 0 ∨ g < w.heap.size) (h : StrS w a n g o ss) :
    Calls Try.prog 11 #[.slice a n c] w fun e w' => (∃ a' c', e = .returned (.slice a' n c') ∧ StrS w' a' n w.heap.size 0 ss ∧ (n = 0 ∨ w.heap.size < w'.heap.size)) ∧ Below w.heap.size w w' := by
  have hnil : ∀ (w : World) (a : Option Addr) (n c n' c' : Nat), (binOp .eql 28 (.slice a n c) (.slice none n' c')).run Try.prog w = .ok (.bool a.isNone) w := fun w a n c n' c' => Lib.run_eql_slice_nil w _ _ a n c n' c' Try.underlying28
  cases a with
  | none =>
    have hn0 : n = 0 := by rcases h.2.1 with e | e; · exact e
                           · cases e
    subst hn0
    have HS : Hid (StrS w none 0 w.heap.size 0 ss) := ⟨h.1, .inl rfl, fun k hk => absurd hk (by omega), fun k hk => absurd hk (by omega)⟩
    clear h
    go_enter Try.func11, Try.ntmps11
    go_wp2
    go_ret
    exact ⟨⟨none, ⟨0, rfl⟩, HS.out⟩, Below.refl _ _⟩
  | some a =>
    obtain ⟨i0, hi, hz0, hz1, hz2⟩ := info_parts Try.info9
    have hmk : ∀ w', (Instr.makeSlice 28 (.int .i64 (n : Int)) (.int .i64 (n : Int))).run Try.prog w' = .ok (.slice (some ⟨w'.heap.size, 0, none⟩) n n) (w'.alloc (.cells (madeCells #[.string ByteArray.empty] n) 9)) := fun w' => by
      have h := run_make (P := Try.prog) w' 28 9 i0 _ Try.underlying28 hi hz0 .i64 .i64 n n (by omega) (Int.le_refl _) (by rw [hz2]; omega) (by omega)
      rw [hz1, Int.toNat_natCast, Nat.mul_one] at h
      exact h
    have hix := index28 c h.2.1
    have HH : Hid _ := h
    have HB0 : Hid (VRow (w.alloc (.cells (madeCells #[.string ByteArray.empty] n) 9)) w.heap.size n (fun _ => .string ByteArray.empty)) := vrow_made w n 9 (.string ByteArray.empty)
    clear h
    go_enter Try.func11, Try.ntmps11
    go_wp2
    go_loopw [4] (fun i wr => ∃ k : Nat, k ≤ n ∧ i = .int .i64 k ∧ VRow wr w.heap.size n (fun j => if j < k then .string (ss.getD j ByteArray.empty) else .string ByteArray.empty) ∧ Below w.heap.size w wr ∧ w.heap.size < wr.heap.size) (fun i _ => n - (intOf i).toNat)
    case atStart => exact ⟨0, Nat.zero_le _, rfl, HB0.out.congr (fun j _ => by simp), (Below.refl _ _).alloc (Nat.le_refl _) _, by simp⟩
    case round =>
      clear hmk hnil HB0
      obtain ⟨k, hk, rfl, hrow, hB, hs⟩ := hrel
      by_cases hlt : k < n
      · have hltz : (k : Int) < (n : Int) := by omega
        have hgl : g < w.heap.size := by omega
        have hc : wr.cell? ⟨g, o + k, none⟩ = some (.string (ss.getD k ByteArray.empty)) := (hB.cell (p := ⟨g, o + k, none⟩) hgl).trans (HH.out.2.2.1 k hlt)
        have ht := hrow k hlt
        obtain ⟨ht, hf⟩ := ht
        have HR : Hid _ := hrow
        clear hrow
        go_wp2
        go_roundw
        case rel =>
          refine ⟨k + 1, by omega, by go_num, VRow.congr (VRow.set HR.out hlt _) ?_, hB.setCell (by simp) _, by simpa using hs⟩
          intro j _
          by_cases e : j = k
          · subst e; simp
          · simp only [e, if_false]
            by_cases h2 : j < k
            · rw [if_pos h2, if_pos (by omega)]
            · rw [if_neg h2, if_neg (by omega)]
        case measure => simp [intOf]; omega
      · obtain rfl : k = n := by omega
        have HS : Hid (StrS wr (some ⟨w.heap.size, 0, none⟩) k w.heap.size 0 ss) := by
          refine ⟨HH.out.1, .inr rfl, fun j hj => ?_, HH.out.2.2.2⟩
          have := (hrow j hj).1
          simp only [if_pos hj] at this
          rw [Nat.zero_add]; exact this
        clear hrow
        go_wp2
        go_ret
        exact ⟨⟨some ⟨w.heap.size, 0, none⟩, k, rfl, HS.out, .inr hs⟩, hB⟩

theorem Try.info3 : (Try.prog.info? 3).map (fun i => (i.zero, i.size, i.bytes)) = some (some (.int .i64 0), 1, 8) := by kernel_rfl
set_option maxRecDepth 100000 in
set_option maxHeartbeats 400000 in
theorem clone_ints (a : Option Addr) (n c g o : Nat) (ss : List Int) (hn : n ≤ 65536) (w : World) (hg : n = 0 ∨ g < w.heap.size) (h : IntS w a n g o ss) :
    Calls Try.prog 12 #[.slice a n c] w fun e w' => (∃ a' c', e = .returned (.slice a' n c') ∧ IntS w' a' n w.heap.size 0 ss ∧ (n = 0 ∨ w.heap.size < w'.heap.size)) ∧ Below w.heap.size w w' := by
  have hnil : ∀ (w : World) (a : Option Addr) (n c n' c' : Nat), (binOp .eql 29 (.slice a n c) (.slice none n' c')).run Try.prog w = .ok (.bool a.isNone) w := fun w a n c n' c' => Lib.run_eql_slice_nil w _ _ a n c n' c' Try.underlying29
  cases a with
  | none =>
    have hn0 : n = 0 := by rcases h.2.1 with e | e; · exact e
                           · cases e
    subst hn0
    have HS : Hid (IntS w none 0 w.heap.size 0 ss) := ⟨h.1, .inl rfl, fun k hk => absurd hk (by omega), fun k hk => absurd hk (by omega)⟩
    clear h
    go_enter Try.func12, Try.ntmps12
    go_wp2
    go_ret
    exact ⟨⟨none, ⟨0, rfl⟩, HS.out⟩, Below.refl _ _⟩
  | some a =>
    obtain ⟨i0, hi, hz0, hz1, hz2⟩ := info_parts Try.info3
    have hmk : ∀ w', (Instr.makeSlice 29 (.int .i64 (n : Int)) (.int .i64 (n : Int))).run Try.prog w' = .ok (.slice (some ⟨w'.heap.size, 0, none⟩) n n) (w'.alloc (.cells (madeCells #[.int .i64 0] n) 3)) := fun w' => by
      have h := run_make (P := Try.prog) w' 29 3 i0 _ Try.underlying29 hi hz0 .i64 .i64 n n (by omega) (Int.le_refl _) (by rw [hz2]; omega) (by omega)
      rw [hz1, Int.toNat_natCast, Nat.mul_one] at h
      exact h
    have hix := index29 c h.2.1
    have HH : Hid _ := h
    have HB0 : Hid (VRow (w.alloc (.cells (madeCells #[.int .i64 0] n) 3)) w.heap.size n (fun _ => .int .i64 0)) := vrow_made w n 3 (.int .i64 0)
    clear h
    go_enter Try.func12, Try.ntmps12
    go_wp2
    go_loopw [4] (fun i wr => ∃ k : Nat, k ≤ n ∧ i = .int .i64 k ∧ VRow wr w.heap.size n (fun j => if j < k then .int .i64 (ss.getD j 0) else .int .i64 0) ∧ Below w.heap.size w wr ∧ w.heap.size < wr.heap.size) (fun i _ => n - (intOf i).toNat)
    case atStart => exact ⟨0, Nat.zero_le _, rfl, HB0.out.congr (fun j _ => by simp), (Below.refl _ _).alloc (Nat.le_refl _) _, by simp⟩
    case round =>
      clear hmk hnil HB0
      obtain ⟨k, hk, rfl, hrow, hB, hs⟩ := hrel
      by_cases hlt : k < n
      · have hltz : (k : Int) < (n : Int) := by omega
        have hgl : g < w.heap.size := by omega
        have hc : wr.cell? ⟨g, o + k, none⟩ = some (.int .i64 (ss.getD k 0)) := (hB.cell (p := ⟨g, o + k, none⟩) hgl).trans (HH.out.2.2.1 k hlt)
        have ht := hrow k hlt
        obtain ⟨ht, hf⟩ := ht
        have HR : Hid _ := hrow
        clear hrow
        go_wp2
        go_roundw
        case rel =>
          refine ⟨k + 1, by omega, by go_num, VRow.congr (VRow.set HR.out hlt _) ?_, hB.setCell (by simp) _, by simpa using hs⟩
          intro j _
          by_cases e : j = k
          · subst e; simp
          · simp only [e, if_false]
            by_cases h2 : j < k
            · rw [if_pos h2, if_pos (by omega)]
            · rw [if_neg h2, if_neg (by omega)]
        case measure => simp [intOf]; omega
      · obtain rfl : k = n := by omega
        have HS : Hid (IntS wr (some ⟨w.heap.size, 0, none⟩) k w.heap.size 0 ss) := by
          refine ⟨HH.out.1, .inr rfl, fun j hj => ?_, HH.out.2.2.2⟩
          have := (hrow j hj).1
          simp only [if_pos hj] at this
          rw [Nat.zero_add]; exact this
        clear hrow
        go_wp2
        go_ret
        exact ⟨⟨some ⟨w.heap.size, 0, none⟩, k, rfl, HS.out, .inr hs⟩, hB⟩

/-! ### skip -/
set_option maxRecDepth 100000 in
set_option maxHeartbeats 400000 in
theorem skip_no (B bt bs nt ns zt zs : Nat) (T S : List UInt8 → Int) (HT HS : List UInt8 → Bool) (s : ByteArray) (hs : s.size ≤ maxLen) (w : World) (hc0 : w.cell? ⟨B, 0, none⟩ = some (.map (some bt))) (hc1 : w.cell? ⟨B, 1, none⟩ = some (.map (some bs)))
    (mt : MapZ w bt nt T HT zt) (ms : MapZ w bs ns S HS zs) (he : S s.data.toList = T s.data.toList) :
    Calls Try.prog 15 #[.pointer (some ⟨B, 0, none⟩), .string s] w fun e w' => e = .returned (.bool false) ∧ ∃ n, w' = w.drewN n := by
  have l1 : ∀ n, (Instr.lookup 34 (.map (some bt)) (.string s) false).run Try.prog (w.drewN n) = .ok (.int .i64 (T s.data.toList)) (w.drewN n) := fun n => ((mt.drewN n).look hs).1
  have l2 : ∀ n, (Instr.lookup 34 (.map (some bs)) (.string s) false).run Try.prog (w.drewN n) = .ok (.int .i64 (S s.data.toList)) (w.drewN n) := fun n => ((ms.drewN n).look hs).1
  rw [he] at l2
  obtain ⟨v, hv⟩ : ∃ v, T s.data.toList = v := ⟨_, rfl⟩
  rw [hv] at l1 l2
  clear he hv mt ms
  go_enter Try.func15, Try.ntmps15
  go_wp2
  go_quiet (fail)
  go_wp2
  go_ret
  exact ⟨rfl, nq, rfl⟩

set_option maxRecDepth 100000 in
set_option maxHeartbeats 400000 in
theorem skip_yes (B bt bs nt ns zt zs : Nat) (T S : List UInt8 → Int) (HT HS : List UInt8 → Bool) (s : ByteArray) (hs : s.size ≤ maxLen) (w : World) (hc0 : w.cell? ⟨B, 0, none⟩ = some (.map (some bt))) (hc1 : w.cell? ⟨B, 1, none⟩ = some (.map (some bs)))
    (mt : MapZ w bt nt T HT zt) (ms : MapZ w bs ns S HS zs) (hns : ns < maxLen) (h0 : 0 ≤ S s.data.toList) (he : S s.data.toList < T s.data.toList) :
    Calls Try.prog 15 #[.pointer (some ⟨B, 0, none⟩), .string s] w fun e w' => e = .returned (.bool true) ∧
      MapZ w' bs (ns + 1) (updV S s.data.toList (S s.data.toList + 1)) (updH HS s.data.toList) (updZ HS s.data.toList zs) ∧ w.grownBy w' (some bs) := by
  have l1 : ∀ n, (Instr.lookup 34 (.map (some bt)) (.string s) false).run Try.prog (w.drewN n) = .ok (.int .i64 (T s.data.toList)) (w.drewN n) := fun n => ((mt.drewN n).look hs).1
  have l2 : ∀ n, (Instr.lookup 34 (.map (some bs)) (.string s) false).run Try.prog (w.drewN n) = .ok (.int .i64 (S s.data.toList)) (w.drewN n) := fun n => ((ms.drewN n).look hs).1
  have hT := bounds_i64 (mt.look hs).2
  obtain ⟨v, hv⟩ : ∃ v, T s.data.toList = v := ⟨_, rfl⟩
  obtain ⟨u, hu⟩ : ∃ u, S s.data.toList = u := ⟨_, rfl⟩
  rw [hv] at l1 he hT
  rw [hu] at l2 he h0
  have hput : ∀ n, ∃ w', (Instr.mapUpdate 34 (.map (some bs)) (.string s) (.int .i64 (u + 1))).run Try.prog (w.drewN n) = .ok () w' ∧
      MapZ w' bs (ns + 1) (updV S s.data.toList (u + 1)) (updH HS s.data.toList) (updZ HS s.data.toList zs) ∧ (w.drewN n).grownBy w' (some bs) := fun n => (ms.drewN n).put hns hs (WalkArith.wf_i64 (by omega))
  have HP : Hid _ := hput
  have ht : (u == v) = false := beq_eq_false_iff_ne.2 (by omega)
  rw [hu]
  clear hput hv hu mt ms
  go_enter Try.func15, Try.ntmps15
  go_wp2
  go_quiet (fail)
  obtain ⟨w1, hrun, hm, hg⟩ := HP.out nq
  have HM : Hid _ := hm
  clear hm
  go_wp2
  go_ret
  exact ⟨rfl, HM.out, ⟨hg.os, hg.tape, hg.output, hg.size, hg.block⟩⟩

set_option maxHeartbeats 400000 in
theorem zzskip_no (bt bs nt ns zt zs : Nat) (T S : List UInt8 → Int) (HT HS : List UInt8 → Bool) (s : ByteArray) (hs : s.size ≤ maxLen) (w : World)
    (mt : MapZ w bt nt T HT zt) (ms : MapZ w bs ns S HS zs) (he : S s.data.toList = T s.data.toList) :
    Calls Try.prog 13 #[.map (some bt), .map (some bs), .string s] w fun e w' => e = .returned (.bool false) ∧ w.grownBy w' none := by
  have MT : Hid _ := mt
  have MS : Hid _ := ms
  have HE : Hid _ := he
  clear mt ms he
  go_enter Try.func13, Try.ntmps13
  go_wp2_with fail
  refine (skip_no w.heap.size bt bs nt ns zt zs T S HT HS s hs _ (by simp) (by simp) (MapZ.alloc MT.out _) (MapZ.alloc MS.out _) HE.out).mono ?_
  rintro e w1 ⟨rfl, n, rfl⟩
  go_wp2_with fail
  go_ret
  have hg := World.grownBy_alloc w (.cells #[.map (some bt), .map (some bs)] 43) none
  exact ⟨rfl, ⟨hg.os, hg.tape, hg.output, hg.size, hg.block⟩⟩

set_option maxHeartbeats 400000 in
theorem zzskip_yes (bt bs nt ns zt zs : Nat) (T S : List UInt8 → Int) (HT HS : List UInt8 → Bool) (s : ByteArray) (hs : s.size ≤ maxLen) (w : World)
    (mt : MapZ w bt nt T HT zt) (ms : MapZ w bs ns S HS zs) (hns : ns < maxLen) (h0 : 0 ≤ S s.data.toList) (he : S s.data.toList < T s.data.toList) :
    Calls Try.prog 13 #[.map (some bt), .map (some bs), .string s] w fun e w' => e = .returned (.bool true) ∧
      MapZ w' bs (ns + 1) (updV S s.data.toList (S s.data.toList + 1)) (updH HS s.data.toList) (updZ HS s.data.toList zs) ∧ w.grownBy w' (some bs) := by
  have MT : Hid _ := mt
  have MS : Hid _ := ms
  have HE : Hid (0 ≤ S s.data.toList ∧ S s.data.toList < T s.data.toList) := ⟨h0, he⟩
  clear mt ms he h0
  go_enter Try.func13, Try.ntmps13
  go_wp2_with fail
  refine (skip_yes w.heap.size bt bs nt ns zt zs T S HT HS s hs _ (by simp) (by simp) (MapZ.alloc MT.out _) (MapZ.alloc MS.out _) hns HE.out.1 HE.out.2).mono ?_
  rintro e w1 ⟨rfl, hm, hg⟩
  have HM : Hid _ := hm
  clear hm
  go_wp2_with fail
  go_ret
  have hg0 := World.grownBy_alloc w (.cells #[.map (some bt), .map (some bs)] 43) (some bs)
  exact ⟨rfl, HM.out, hg0.trans hg⟩
end Go.Proofs.Qxb6605259a
