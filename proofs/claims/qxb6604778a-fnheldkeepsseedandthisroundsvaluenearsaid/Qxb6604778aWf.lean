/-
  THE WALKS of 'zzFromWalks' and 'ZZWalks'.
-/
import Derived.Test.Qxb6604778aWw
import Derived.Deep.RegionHeld3
namespace Go.Proofs.Qxb6604778a
open Go.RowKit Go.Sort

theorem Try.info30 : (Try.prog.info? 30).map (fun i => (i.zero, i.size, i.bytes)) = some (some (.agg #[.int .i64 0, .int .i64 0, .int .i64 0, .int .i64 0, .int .i64 0, .int .i64 0]), 6, 48) := by kernel_rfl

theorem made6_at (n t : Nat) (h : t < n * 6) : (madeCells #[.int .i64 0, .int .i64 0, .int .i64 0, .int .i64 0, .int .i64 0, .int .i64 0] (n * 6))[t]? = some (.int .i64 0) := by
  have h6 : t % 6 < 6 := Nat.mod_lt _ (by omega)
  have e : (madeCells #[.int .i64 0, .int .i64 0, .int .i64 0, .int .i64 0, .int .i64 0, .int .i64 0] (n * 6))[t]? = some ((#[.int .i64 0, .int .i64 0, .int .i64 0, .int .i64 0, .int .i64 0, .int .i64 0] : Array Value)[t % 6]!) := by
    unfold madeCells
    rw [Array.getElem?_map, Array.getElem?_range, if_pos h]
    rfl
  rw [e]
  generalize t % 6 = q at h6
  match q, h6 with
  | 0, _ => rfl
  | 1, _ => rfl
  | 2, _ => rfl
  | 3, _ => rfl
  | 4, _ => rfl
  | 5, _ => rfl
  | q + 6, h => omega
theorem row_of_block {w : World} {g k n : Nat} {cur : Array Value} {e : TypeId} {F : Nat → Nat → Int} (hb : w.heap[g]? = some (.cells cur e (0, 0))) (h : ∀ i, i < n → ∀ c, c < k → cur[i * k + c]? = some (.int .i64 (F i c))) : Row w g k n F := by
  intro i hi c hc
  exact ⟨by rw [cell_of_row w g _ cur e (0, 0) hb]; exact h i hi c hc, by simp [World.frozen?, hb]⟩
theorem row_made6 (w : World) (n : Nat) (e : TypeId) : Row (w.alloc (.cells (madeCells #[.int .i64 0, .int .i64 0, .int .i64 0, .int .i64 0, .int .i64 0, .int .i64 0] (n * 6)) e)) w.heap.size 6 n (fun _ _ => 0) :=
  row_of_block (heap_alloc_new w _) (fun i hi c hc => made6_at n _ (by omega))
theorem Row.alloc {w : World} {g k n : Nat} {F : Nat → Nat → Int} (h : Row w g k n F) (hg : g < w.heap.size) (o : Obj) : Row (w.alloc o) g k n F := h.block (heap_alloc_old w o hg)

theorem Row.set6 {w : World} {h n : Nat} {F : Nat → Nat → Int} (hr : Row w h 6 n F) {k : Nat} (hk : k < n) (G : Nat → Int) :
    Row ((((((w.setCell ⟨h, k * 6, none⟩ (.int .i64 (G 0))).setCell ⟨h, k * 6 + 1, none⟩ (.int .i64 (G 1))).setCell ⟨h, k * 6 + 2, none⟩ (.int .i64 (G 2))).setCell ⟨h, k * 6 + 3, none⟩ (.int .i64 (G 3))).setCell ⟨h, k * 6 + 4, none⟩ (.int .i64 (G 4))).setCell ⟨h, k * 6 + 5, none⟩ (.int .i64 (G 5))) h 6 n (fun i c => if i = k then G c else F i c) := by
  have a := (((((hr.set hk (show 0 < 6 by omega) (G 0)).set hk (show 1 < 6 by omega) (G 1)).set hk (show 2 < 6 by omega) (G 2)).set hk (show 3 < 6 by omega) (G 3)).set hk (show 4 < 6 by omega) (G 4)).set hk (show 5 < 6 by omega) (G 5)
  rw [Nat.add_zero] at a
  refine a.congr ?_
  intro i _ c hc
  by_cases e : i = k
  · subst e
    match c, hc with
    | 0, _ => simp
    | 1, _ => simp
    | 2, _ => simp
    | 3, _ => simp
    | 4, _ => simp
    | 5, _ => simp
    | c + 6, h => omega
  · simp [e]
theorem below_set6 {B : Nat} {a w : World} (hb : Below B a w) {h k : Nat} (hh : B ≤ h) (G : Nat → Int) : Below B a ((((((w.setCell ⟨h, k * 6, none⟩ (.int .i64 (G 0))).setCell ⟨h, k * 6 + 1, none⟩ (.int .i64 (G 1))).setCell ⟨h, k * 6 + 2, none⟩ (.int .i64 (G 2))).setCell ⟨h, k * 6 + 3, none⟩ (.int .i64 (G 3))).setCell ⟨h, k * 6 + 4, none⟩ (.int .i64 (G 4))).setCell ⟨h, k * 6 + 5, none⟩ (.int .i64 (G 5))) :=
  (((((hb.setCell hh _).setCell hh _).setCell hh _).setCell hh _).setCell hh _).setCell hh _
theorem block_set6 (w : World) (h k : Nat) (G : Nat → Int) (j : Nat) (hj : j ≠ h) : ((((((w.setCell ⟨h, k * 6, none⟩ (.int .i64 (G 0))).setCell ⟨h, k * 6 + 1, none⟩ (.int .i64 (G 1))).setCell ⟨h, k * 6 + 2, none⟩ (.int .i64 (G 2))).setCell ⟨h, k * 6 + 3, none⟩ (.int .i64 (G 3))).setCell ⟨h, k * 6 + 4, none⟩ (.int .i64 (G 4))).setCell ⟨h, k * 6 + 5, none⟩ (.int .i64 (G 5))).heap[j]? = w.heap[j]? := by
  rw [Below.heap_setCell _ _ _ _ hj, Below.heap_setCell _ _ _ _ hj, Below.heap_setCell _ _ _ _ hj, Below.heap_setCell _ _ _ _ hj, Below.heap_setCell _ _ _ _ hj, Below.heap_setCell _ _ _ _ hj]

set_option maxRecDepth 100000 in
set_option maxHeartbeats 1000000 in
theorem from_any (g n cap : Nat) (F : Nat → Nat → Int) (hn : n ≤ 61) (w : World) (hg : g < w.heap.size) (hrow : Row w g 6 n F) :
    Calls Try.prog 14 #[.slice (some ⟨g, 0, none⟩) n cap] w fun e w' => e = .returned (.slice (some ⟨w.heap.size, 0, none⟩) n n) ∧ Row w' w.heap.size 6 n F ∧ w.heap.size < w'.heap.size ∧ Below w.heap.size w w' := by
  obtain ⟨i0, hi, hz0, hz1, hz2⟩ := info_parts Try.info30
  have hmk : ∀ w', (Instr.makeSlice 25 (.int .i64 (n : Int)) (.int .i64 (n : Int))).run Try.prog w' = .ok (.slice (some ⟨w'.heap.size, 0, none⟩) n n) (w'.alloc (.cells (madeCells #[.int .i64 0, .int .i64 0, .int .i64 0, .int .i64 0, .int .i64 0, .int .i64 0] (n * 6)) 30)) := fun w' => by
    have h := run_make (P := Try.prog) w' 25 30 i0 _ Try.underlying25 hi hz0 .i64 .i64 n n (by omega) (Int.le_refl _) (by rw [hz2]; omega) (by omega)
    rw [hz1, Int.toNat_natCast] at h
    exact h
  have hnil : ∀ (w : World) (a : Option Addr) (n c n' c' : Nat), (binOp .eql 40 (.slice a n c) (.slice none n' c')).run Try.prog w = .ok (.bool a.isNone) w := fun w a n c n' c' => Lib.run_eql_slice_nil w _ _ a n c n' c' Try.underlying40
  have HR : Hid (Row w g 6 n F) := hrow
  clear hrow
  go_enter Try.func14, Try.ntmps14
  go_wp2
  go_loopw [12] (fun i wr => ∃ k : Nat, k ≤ n ∧ i = .int .i64 k ∧ Row wr g 6 n F ∧ Row wr w.heap.size 6 n (fun i c => if i < k then F i c else 0) ∧ w.heap.size < wr.heap.size ∧ Below w.heap.size w wr) (fun i _ => n - (intOf i).toNat)
  case atStart => exact ⟨0, Nat.zero_le _, rfl, HR.out.alloc hg _, (row_made6 w n 30).congr (fun i _ c _ => by simp), by simp, (Below.refl _ _).alloc (Nat.le_refl _) _⟩
  case round =>
    clear HR hmk hnil
    obtain ⟨k, hk, rfl, hrow, hrow2, hs, hB⟩ := hrel
    by_cases hlt : k < n
    · have hltz : (k : Int) < (n : Int) := by omega
      have c0 := (hrow k hlt 0 (by omega)).1
      have c1 := (hrow k hlt 1 (by omega)).1
      have c2 := (hrow k hlt 2 (by omega)).1
      have c3 := (hrow k hlt 3 (by omega)).1
      have c4 := (hrow k hlt 4 (by omega)).1
      have c5 := (hrow k hlt 5 (by omega)).1
      rw [Nat.add_zero] at c0
      have HR : Hid _ := hrow
      have HR2 : Hid _ := hrow2
      have t0 := hrow2 k hlt 0 (by omega)
      have t1 := hrow2 k hlt 1 (by omega)
      have t2 := hrow2 k hlt 2 (by omega)
      have t3 := hrow2 k hlt 3 (by omega)
      have t4 := hrow2 k hlt 4 (by omega)
      have t5 := hrow2 k hlt 5 (by omega)
      rw [Nat.add_zero] at t0
      simp only [Nat.lt_irrefl, if_false] at t0 t1 t2 t3 t4 t5
      obtain ⟨t0, s0⟩ := t0
      obtain ⟨t1, s1⟩ := t1
      obtain ⟨t2, s2⟩ := t2
      obtain ⟨t3, s3⟩ := t3
      obtain ⟨t4, s4⟩ := t4
      obtain ⟨t5, s5⟩ := t5
      have hne : ¬ w.heap.size = g := by omega
      have hne1 : ¬ g = w.heap.size := by omega
      clear hrow hrow2
      go_wp2_with fail
      go_region_held3 (fun w' => w'.cell? ⟨g, k * 6, none⟩ = some (.int .i64 (F k 0)) ∧ w'.cell? ⟨g, k * 6 + 1, none⟩ = some (.int .i64 (F k 1)) ∧ w'.cell? ⟨g, k * 6 + 2, none⟩ = some (.int .i64 (F k 2)) ∧ w'.cell? ⟨g, k * 6 + 3, none⟩ = some (.int .i64 (F k 3)) ∧ w'.cell? ⟨g, k * 6 + 4, none⟩ = some (.int .i64 (F k 4)) ∧ w'.cell? ⟨g, k * 6 + 5, none⟩ = some (.int .i64 (F k 5))) (go_keep) (fail)
      go_wp2_with fail
      go_roundw
      case rel =>
        refine ⟨k + 1, by omega, by go_num, ?_, ?_, ?_, ?_⟩
        · exact Row.drew (Row.block HR.out (block_set6 wr w.heap.size k (F k) g hne1))
        · refine Row.drew (Row.congr (Row.set6 HR2.out hlt (F k)) ?_)
          intro i _ c _
          by_cases e : i = k
          · subst e; simp
          · simp only [e, if_false]
            by_cases h : i < k
            · rw [if_pos h, if_pos (by omega)]
            · rw [if_neg h, if_neg (by omega)]
        · simpa using hs
        · exact (below_set6 hB (Nat.le_refl _) (F k)).drew
      case measure => simp [intOf]; omega
    · obtain rfl : k = n := by omega
      go_wp2_with fail
      go_ret
      exact ⟨rfl, hrow2.congr (fun i hi c _ => by rw [if_pos hi]), hs, hB⟩

set_option maxHeartbeats 400000 in
theorem from_nil (w : World) : Calls Try.prog 14 #[.slice none 0 0] w fun e w' => e = .returned (.slice none 0 0) ∧ w' = w := by
  have hnil : ∀ (w : World) (a : Option Addr) (n c n' c' : Nat), (binOp .eql 40 (.slice a n c) (.slice none n' c')).run Try.prog w = .ok (.bool a.isNone) w := fun w a n c n' c' => Lib.run_eql_slice_nil w _ _ a n c n' c' Try.underlying40
  go_enter Try.func14, Try.ntmps14
  go_wp2
  go_ret
  exact ⟨rfl, rfl⟩

set_option maxHeartbeats 400000 in
theorem zzwalks_none (ln bu r : Int) (L : Nat) (hL : L ≤ 62) (hr : pw L ≤ r) (w : World) :
    Calls Try.prog 10 #[.int .i64 ln, .int .i64 L, .int .i64 bu, .int .i64 r] w fun e w' => e = .returned (.slice none 0 0) ∧ Below w.heap.size w w' := by
  go_enter Try.func10, Try.ntmps10
  go_wp2_with (first | (go_at_call 15; refine (walks_none _ _ _ _ hL hr _).mono ?_; rintro e w1 ⟨rfl, hb⟩) | (go_at_call 14; refine (from_nil _).mono ?_; rintro e w2 ⟨rfl, rfl⟩))
  go_ret
  exact ⟨rfl, hb⟩

set_option maxHeartbeats 400000 in
/-- ZZWalks: the open walks of round r in the order of their due; what each leaves undone is as 'okU' says. -/
theorem zzwalks_any (ln bu r : Int) (L : Nat) (hL : L ≤ 62) (hr0 : 0 ≤ r) (hr : r < pw L) (hbu0 : -9223372036854775808 ≤ bu) (hbu1 : bu ≤ 9223372036854775807) (w : World) :
    Calls Try.prog 10 #[.int .i64 ln, .int .i64 L, .int .i64 bu, .int .i64 r] w fun e w' =>
      (∃ (g cap : Nat) (U : Nat → Int), e = .returned (.slice (some ⟨g, 0, none⟩) (sorL r (L - 1)).length cap) ∧ (∀ i, i < (sorL r (L - 1)).length → okU L r bu ((sorL r (L - 1)).getD i 0) (U i)) ∧
        Row w' g 6 (sorL r (L - 1)).length (rowU L r (L - 1) U (sorL r (L - 1)).length) ∧ w.heap.size ≤ g ∧ g < w'.heap.size) ∧ Below w.heap.size w w' := by
  have hN : (sorL r (L - 1)).length ≤ 61 := by
    have := openL_length r (L - 1)
    have := (sorL_perm r (L - 1)).length_eq
    omega
  go_enter Try.func10, Try.ntmps10
  go_wp2_with fail
  refine (walks_any _ _ _ _ hL hr0 hr hbu0 hbu1 _).mono ?_
  rintro e w1 ⟨⟨g, cap, U, rfl, hU, hrow, hg0, hg1⟩, hb⟩
  have HR : Hid _ := hrow
  have HU : Hid _ := hU
  clear hrow hU
  go_wp2_with fail
  refine (from_any _ _ _ _ hN _ hg1 HR.out).mono ?_
  rintro e w2 ⟨rfl, hrow2, hs2, hb2⟩
  have HR2 : Hid _ := hrow2
  clear hrow2
  go_wp2_with fail
  go_ret
  exact ⟨⟨w1.heap.size, _, U, rfl, HU.out, HR2.out, hb.size, hs2⟩, hb.trans (hb2.mono hb.size)⟩
end Go.Proofs.Qxb6604778a
