/-
  THE WALKS of 'zzInsertByDueChainB1' and 'zzOpenWalksChainB1'.
-/
import Derived.Test.Qxb6604778aWf
namespace Go.Proofs.Qxb6604778a
open Go.RowKit Go.Sort

theorem Try.info32 : (Try.prog.info? 32).map (fun i => (i.zero, i.size, i.bytes)) = some (some (.agg #[.int .i64 0, .int .i64 0, .int .i64 0, .int .i64 0, .int .i64 0]), 5, 40) := by kernel_rfl

def encM (L : Nat) (r : Int) (k : Nat) : List Value := [.int .i64 (fldK L r k 0), .int .i64 (fldK L r k 1), .int .i64 (fldK L r k 2), .int .i64 (fldK L r k 3), .int .i64 (fldK L r k 4)]
theorem encM_len (L : Nat) (r : Int) (k : Nat) : (encM L r k).length = 5 := rfl
theorem encM_at (L : Nat) (r : Int) (k c : Nat) (hc : c < 5) : (encM L r k)[c]? = some (.int .i64 (fldK L r k c)) := by
  match c, hc with
  | 0, _ => rfl
  | 1, _ => rfl
  | 2, _ => rfl
  | 3, _ => rfl
  | 4, _ => rfl
  | c + 5, h => omega
theorem encM_one (L : Nat) (r : Int) (k : Nat) : ∀ v ∈ encM L r k, v.oneCell' = true := by
  intro v hv
  simp [encM] at hv
  rcases hv with rfl | rfl | rfl | rfl | rfl <;> rfl

/-- block g is a row of sz cells of type e, none of them frozen. -/
def Blk (w : World) (g e sz : Nat) : Prop := ∃ cur, w.heap[g]? = some (.cells cur e (0, 0)) ∧ cur.size = sz
theorem Blk.block {w w' : World} {g e sz : Nat} (h : Blk w g e sz) (hb : w'.heap[g]? = w.heap[g]?) : Blk w' g e sz := by
  obtain ⟨cur, h1, h2⟩ := h; exact ⟨cur, hb.trans h1, h2⟩
theorem Blk.setCell {w : World} {g e sz : Nat} (h : Blk w g e sz) (o : Nat) (v : Value) : Blk (w.setCell ⟨g, o, none⟩ v) g e sz := by
  obtain ⟨cur, h1, h2⟩ := h
  refine ⟨cur.setIfInBounds o v, ?_, by simpa using h2⟩
  simp [World.setCell, Array.getElem?_modify, h1]
theorem Blk.drew {w : World} {g e sz : Nat} (h : Blk w g e sz) : Blk w.drew g e sz := h
theorem blk_of_owns {w : World} {base e k g cap n : Nat} {xs : List Value} (h : w.ownsRow base e k (.slice (some ⟨g, 0, none⟩) n cap) n xs) : Blk w g e (cap * k) ∧ n ≤ cap ∧ cap ≤ maxLen ∧ base ≤ g := by
  rcases h.2 with ⟨h2, _⟩ | ⟨g', cap', cur, h2, hb, hh, h3, h4, h5, _⟩
  · simp at h2
  · simp at h2
    obtain ⟨rfl, rfl⟩ := h2
    exact ⟨⟨cur, hh, h5⟩, h3, h4, hb⟩
theorem owns_of_row {α : Type} {w : World} {base e k g cap n : Nat} {l : List α} {enc : α → List Value} (hk : ∀ x, (enc x).length = k) (fld : α → Nat → Int) (he : ∀ x c, c < k → (enc x)[c]? = some (.int .i64 (fld x c)))
    (hb : Blk w g e (cap * k)) (hbase : base ≤ g) (hn : n = l.length) (hc : n ≤ cap) (hm : cap ≤ maxLen) (d : α) (h : Row w g k n (fun i c => fld (l.getD i d) c)) : w.ownsRow base e k (.slice (some ⟨g, 0, none⟩) n cap) n (l.flatMap enc) := by
  obtain ⟨cur, h1, h2⟩ := hb
  subst hn
  refine ⟨flat_len enc k hk l, .inr ⟨g, cap, cur, rfl, hbase, h1, hc, hm, h2, ?_⟩⟩
  have hle : l.length * k ≤ cap * k := Nat.mul_le_mul_right k hc
  apply List.ext_getElem?
  intro t
  by_cases ht : t < l.length * k
  · have hk0 : 0 < k := by rcases Nat.eq_zero_or_pos k with e | e; · subst e; simp at ht
                           · exact e
    have q1 : t / k < l.length := Nat.div_lt_of_lt_mul (by rw [Nat.mul_comm]; exact ht)
    have q2 : t % k < k := Nat.mod_lt _ hk0
    have c1 := (h (t / k) q1 (t % k) q2).1
    rw [cell_of_row w g _ cur e (0, 0) h1] at c1
    have e1 : t / k * k + t % k = t := by rw [Nat.mul_comm, Nat.div_add_mod]
    have f1 := flat_get enc k hk l (t / k) (t % k) q1 q2
    rw [e1] at c1 f1
    rw [List.getElem?_take, if_pos ht, f1, he _ _ q2, Array.getElem?_toList, c1]
    simp [List.getD, q1]
  · rw [List.getElem?_take, if_neg ht, List.getElem?_eq_none]
    rw [flat_len enc k hk l]; omega

theorem Row.set5 {w : World} {h n : Nat} {F : Nat → Nat → Int} (hr : Row w h 5 n F) {k : Nat} (hk : k < n) (G : Nat → Int) :
    Row (((((w.setCell ⟨h, k * 5, none⟩ (.int .i64 (G 0))).setCell ⟨h, k * 5 + 1, none⟩ (.int .i64 (G 1))).setCell ⟨h, k * 5 + 2, none⟩ (.int .i64 (G 2))).setCell ⟨h, k * 5 + 3, none⟩ (.int .i64 (G 3))).setCell ⟨h, k * 5 + 4, none⟩ (.int .i64 (G 4))) h 5 n (fun i c => if i = k then G c else F i c) := by
  have a := ((((hr.set hk (show 0 < 5 by omega) (G 0)).set hk (show 1 < 5 by omega) (G 1)).set hk (show 2 < 5 by omega) (G 2)).set hk (show 3 < 5 by omega) (G 3)).set hk (show 4 < 5 by omega) (G 4)
  rw [Nat.add_zero] at a
  refine a.congr ?_
  intro i _ c hc
  by_cases e : i = k
  · subst e
    match c, hc with
    | 0, _ => simp
    | 1, _ => simp
    | 2, _ => simp
    | 3, _ => simp
    | 4, _ => simp
    | c + 5, h => omega
  · simp [e]
theorem Blk.set5 {w : World} {h e sz : Nat} (hb : Blk w h e sz) (k : Nat) (G : Nat → Int) : Blk (((((w.setCell ⟨h, k * 5, none⟩ (.int .i64 (G 0))).setCell ⟨h, k * 5 + 1, none⟩ (.int .i64 (G 1))).setCell ⟨h, k * 5 + 2, none⟩ (.int .i64 (G 2))).setCell ⟨h, k * 5 + 3, none⟩ (.int .i64 (G 3))).setCell ⟨h, k * 5 + 4, none⟩ (.int .i64 (G 4))) h e sz :=
  ((((hb.setCell _ _).setCell _ _).setCell _ _).setCell _ _).setCell _ _
theorem block_set5 (w : World) (h k : Nat) (G : Nat → Int) (j : Nat) (hj : j ≠ h) : (((((w.setCell ⟨h, k * 5, none⟩ (.int .i64 (G 0))).setCell ⟨h, k * 5 + 1, none⟩ (.int .i64 (G 1))).setCell ⟨h, k * 5 + 2, none⟩ (.int .i64 (G 2))).setCell ⟨h, k * 5 + 3, none⟩ (.int .i64 (G 3))).setCell ⟨h, k * 5 + 4, none⟩ (.int .i64 (G 4))).heap[j]? = w.heap[j]? := by
  rw [Below.heap_setCell _ _ _ _ hj, Below.heap_setCell _ _ _ _ hj, Below.heap_setCell _ _ _ _ hj, Below.heap_setCell _ _ _ _ hj, Below.heap_setCell _ _ _ _ hj]
theorem grown_setCell {w w' : World} {g h : Nat} (hg : w.grownBy w' (some g)) (hh : h = g ∨ w.heap.size ≤ h) (o : Nat) (v : Value) : w.grownBy (w'.setCell ⟨h, o, none⟩ v) (some g) :=
  ⟨hg.os, hg.tape, hg.output, by simpa [World.setCell] using hg.size, fun k hk hne => by
    rw [Below.heap_setCell _ _ _ _ (by simp only; rcases hh with e | e; · intro q; exact hne (by rw [q, e])
                                       · omega)]
    exact hg.block k hk hne⟩
theorem grown_set5 {w w' : World} {g h : Nat} (hg : w.grownBy w' (some g)) (hh : h = g ∨ w.heap.size ≤ h) (k : Nat) (G : Nat → Int) : w.grownBy (((((w'.setCell ⟨h, k * 5, none⟩ (.int .i64 (G 0))).setCell ⟨h, k * 5 + 1, none⟩ (.int .i64 (G 1))).setCell ⟨h, k * 5 + 2, none⟩ (.int .i64 (G 2))).setCell ⟨h, k * 5 + 3, none⟩ (.int .i64 (G 3))).setCell ⟨h, k * 5 + 4, none⟩ (.int .i64 (G 4))) (some g) :=
  grown_setCell (grown_setCell (grown_setCell (grown_setCell (grown_setCell hg hh _ _) hh _ _) hh _ _) hh _ _) hh _ _
theorem grown_drew {w w' : World} {row : Option Nat} (h : w.grownBy w' row) : w.grownBy w'.drew row := ⟨h.os, h.tape, h.output, h.size, h.block⟩

theorem cell_set5 (w : World) (h k : Nat) (G : Nat → Int) (j o : Nat) (hj : j ≠ h) : (((((w.setCell ⟨h, k * 5, none⟩ (.int .i64 (G 0))).setCell ⟨h, k * 5 + 1, none⟩ (.int .i64 (G 1))).setCell ⟨h, k * 5 + 2, none⟩ (.int .i64 (G 2))).setCell ⟨h, k * 5 + 3, none⟩ (.int .i64 (G 3))).setCell ⟨h, k * 5 + 4, none⟩ (.int .i64 (G 4))).cell? ⟨j, o, none⟩ = w.cell? ⟨j, o, none⟩ :=
  World.cell?_of_block (a := ⟨j, o, none⟩) (block_set5 w h k G j hj)
theorem Row.drewN {w : World} {g k n : Nat} {F : Nat → Nat → Int} (h : Row w g k n F) (m : Nat) : Row (w.drewN m) g k n F := h
theorem Blk.drewN {w : World} {g e sz : Nat} (h : Blk w g e sz) (m : Nat) : Blk (w.drewN m) g e sz := h
theorem grown_drewN {w w' : World} {row : Option Nat} (h : w.grownBy w' row) (m : Nat) : w.grownBy (w'.drewN m) row := ⟨h.os, h.tape, h.output, h.size, h.block⟩

/-- what stands behind the append: where the new slice lies, its row, the boxed walk. -/
theorem ins_facts {L : Nat} {r : Int} {base g cap x g4 cap4 : Nat} {l : List Nat} {w w4 : World} (hown : w.ownsRow base 32 5 (.slice (some ⟨g, 0, none⟩) l.length cap) l.length (l.flatMap (encM L r)))
    (hown4 : w4.ownsRow base 32 5 (.slice (some ⟨g4, 0, none⟩) (l.length + 1) cap4) (l.length + 1) (l.flatMap (encM L r) ++ encM L r x))
    (hgr4 : ((w.alloc (.cells #[.int .i64 (fldK L r x 0), .int .i64 (fldK L r x 1), .int .i64 (fldK L r x 2), .int .i64 (fldK L r x 3), .int .i64 (fldK L r x 4)] 32)).alloc (.cells #[.int .i64 (fldK L r x 0), .int .i64 (fldK L r x 1), .int .i64 (fldK L r x 2), .int .i64 (fldK L r x 3), .int .i64 (fldK L r x 4)] 32)).grownBy w4 (Value.ownBlock (.slice (some ⟨g, 0, none⟩) l.length cap))) (hat4 : Value.ownBlock (.slice (some ⟨g, 0, none⟩) l.length cap) = some g4 ∨ g4 = w.heap.size + 2) :
    w.grownBy w4 (some g) ∧ (g4 = g ∨ w.heap.size + 2 ≤ g4) ∧ g < w.heap.size ∧ Row w4 g4 5 (l.length + 1) (fun i c => fldK L r ((l ++ [x]).getD i 0) c) ∧ (Blk w4 g4 32 (cap4 * 5) ∧ l.length + 1 ≤ cap4 ∧ cap4 ≤ maxLen ∧ base ≤ g4) ∧
    w4.cell? ⟨w.heap.size, 0, none⟩ = some (.int .i64 (fldK L r x 0)) ∧ w4.cell? ⟨w.heap.size, 1, none⟩ = some (.int .i64 (fldK L r x 1)) ∧ w4.cell? ⟨w.heap.size, 2, none⟩ = some (.int .i64 (fldK L r x 2)) ∧ w4.cell? ⟨w.heap.size, 3, none⟩ = some (.int .i64 (fldK L r x 3)) ∧ w4.cell? ⟨w.heap.size, 4, none⟩ = some (.int .i64 (fldK L r x 4)) := by
  have hgl := (hown.lt g rfl).2
  have hs : ((w.alloc (.cells #[.int .i64 (fldK L r x 0), .int .i64 (fldK L r x 1), .int .i64 (fldK L r x 2), .int .i64 (fldK L r x 3), .int .i64 (fldK L r x 4)] 32)).alloc (.cells #[.int .i64 (fldK L r x 0), .int .i64 (fldK L r x 1), .int .i64 (fldK L r x 2), .int .i64 (fldK L r x 3), .int .i64 (fldK L r x 4)] 32)).heap.size = w.heap.size + 2 := by simp
  have hbb : w4.heap[w.heap.size]? = some (.cells #[.int .i64 (fldK L r x 0), .int .i64 (fldK L r x 1), .int .i64 (fldK L r x 2), .int .i64 (fldK L r x 3), .int .i64 (fldK L r x 4)] 32 (0, 0)) := by
    rw [hgr4.block w.heap.size (by omega) (by intro e; simp [Value.ownBlock] at e; omega), heap_alloc_old _ _ (by simp)]
    exact heap_alloc_new w _
  refine ⟨⟨hgr4.os, hgr4.tape, hgr4.output, by have := hgr4.size; omega, fun k hk hne => ?_⟩, ?_, hgl, ?_, blk_of_owns hown4, ?_, ?_, ?_, ?_, ?_⟩
  · have h1 : (w.alloc (.cells #[.int .i64 (fldK L r x 0), .int .i64 (fldK L r x 1), .int .i64 (fldK L r x 2), .int .i64 (fldK L r x 3), .int .i64 (fldK L r x 4)] 32)).heap.size = w.heap.size + 1 := by simp
    rw [hgr4.block k (by omega) (by simpa [Value.ownBlock] using hne), heap_alloc_old _ _ (by omega), heap_alloc_old _ _ hk]
  · rcases hat4 with h | h
    · left; simp [Value.ownBlock] at h; exact h.symm
    · right; omega
  · exact row_of_owns (l := l ++ [x]) (encM_len L r) (fldK L r) (fun y c hc => encM_at L r y c hc) (by rw [List.flatMap_append]; simpa using hown4) (by simp) 0
  all_goals (rw [cell_of_row w4 _ _ _ _ _ hbb]; rfl)

/-- the row while the shift goes on, the hole at i. -/
def holeG (l : List Nat) (x i j : Nat) : Nat := if j ≤ i then (l ++ [x]).getD j 0 else l.getD (j - 1) 0
theorem holeG_start (l : List Nat) (x j : Nat) (hj : j < l.length + 1) : (l ++ [x]).getD j 0 = holeG l x l.length j := by
  unfold holeG; rw [if_pos (by omega)]
theorem holeG_at (l : List Nat) (x i : Nat) (hi : i + 1 ≤ l.length) : holeG l x (i + 1) i = l.getD i 0 := by
  unfold holeG; rw [if_pos (by omega)]; simp [List.getD, List.getElem?_append_left (show i < l.length by omega)]
theorem holeG_shift (l : List Nat) (x i j : Nat) : (if j = i + 1 then l.getD i 0 else holeG l x (i + 1) j) = holeG l x i j := by
  unfold holeG
  by_cases e : j = i + 1
  · subst e; rw [if_pos rfl, if_neg (by omega)]; rfl
  · rw [if_neg e]
    by_cases h : j ≤ i
    · rw [if_pos (by omega), if_pos h]
    · rw [if_neg (by omega), if_neg h]
theorem holeG_end (l : List Nat) (x p j : Nat) (hp : p ≤ l.length) (hj : j < l.length + 1) : (if j = p then x else holeG l x p j) = (l.take p ++ x :: l.drop p).getD j 0 := by
  have hlen : (l.take p).length = p := by simp; omega
  unfold holeG
  by_cases e : j = p
  · subst e
    rw [if_pos rfl, List.getD_eq_getElem?_getD, List.getElem?_append_right (by omega), hlen]; simp
  · rw [if_neg e]
    by_cases h : j ≤ p
    · rw [if_pos h, List.getD_eq_getElem?_getD, List.getD_eq_getElem?_getD, List.getElem?_append_left (show j < l.length by omega), List.getElem?_append_left (by omega), List.getElem?_take, if_pos (by omega)]
    · rw [if_neg h, List.getD_eq_getElem?_getD, List.getD_eq_getElem?_getD, List.getElem?_append_right (by omega), hlen]
      obtain ⟨q, rfl⟩ : ∃ q, j = p + 1 + q := ⟨j - p - 1, by omega⟩
      rw [show p + 1 + q - p = q + 1 by omega, List.getElem?_cons_succ, List.getElem?_drop, show p + 1 + q - 1 = p + q by omega]

set_option maxRecDepth 100000 in
set_option maxHeartbeats 1000000 in
theorem ins_any (L : Nat) (r : Int) (base g cap x p : Nat) (l : List Nat) (hl : l.length ≤ 61) (hp : p ≤ l.length) (hlo : p = 0 ∨ fldK L r (l.getD (p - 1) 0) 4 ≤ fldK L r x 4) (hhi : ∀ j, p ≤ j → j < l.length → fldK L r x 4 < fldK L r (l.getD j 0) 4)
    (w : World) (hbase : base ≤ w.heap.size) (hown : w.ownsRow base 32 5 (.slice (some ⟨g, 0, none⟩) l.length cap) l.length (l.flatMap (encM L r))) :
    Calls Try.prog 16 #[.slice (some ⟨g, 0, none⟩) l.length cap, .agg #[.int .i64 (fldK L r x 0), .int .i64 (fldK L r x 1), .int .i64 (fldK L r x 2), .int .i64 (fldK L r x 3), .int .i64 (fldK L r x 4)]] w fun e w' =>
      (∃ g' cap', e = .returned (.slice (some ⟨g', 0, none⟩) (l.length + 1) cap') ∧ w'.ownsRow base 32 5 (.slice (some ⟨g', 0, none⟩) (l.length + 1) cap') (l.length + 1) ((l.take p ++ x :: l.drop p).flatMap (encM L r))) ∧ w.grownBy w' (some g) := by
  obtain ⟨i0, hi, hz0, hz1, hz2⟩ := info_parts Try.info32
  go_enter Try.func16, Try.ntmps16
  go_wp2_with (at_builtin; refine wpList_append_lies _ rfl (.tmp 6) (.tmp 8) 27 rfl base 32 i0 _ 5 40 Try.underlying27 hi hz0 hz1 hz2 rfl (by decide) _ _ _ rfl ((hown.alloc _).alloc _) ⟨w.heap.size + 1, 0, none⟩ 1 1 (encM L r x) rfl rfl (World.news_of_block (by simpa using heap_alloc_new (w.alloc _) _)) (encM_one L r x) (by decide) ?c3 ?c4 ?c5 (w.heap.size + 2) (by simp) ?_)
  case c3 => unfold maxLen; omega
  case c4 => omega
  case c5 => simp; omega
  intro g4 cap4 w4 hown4 hgr4 hat4 hlt4
  obtain ⟨hgr, hg4, hgl, hrow4, ⟨hblk, hcap, hmax, hbg⟩, b0, b1, b2, b3, b4⟩ := ins_facts hown hown4 hgr4 hat4
  have HB : Hid (Blk w4 g4 32 (cap4 * 5)) := hblk
  have HR : Hid _ := hrow4
  have HG : Hid (w.grownBy w4 (some g)) := hgr
  have HX : Hid (w4.cell? ⟨w.heap.size, 0, none⟩ = some (.int .i64 (fldK L r x 0)) ∧ w4.cell? ⟨w.heap.size, 1, none⟩ = some (.int .i64 (fldK L r x 1)) ∧ w4.cell? ⟨w.heap.size, 2, none⟩ = some (.int .i64 (fldK L r x 2)) ∧ w4.cell? ⟨w.heap.size, 3, none⟩ = some (.int .i64 (fldK L r x 3)) ∧ w4.cell? ⟨w.heap.size, 4, none⟩ = some (.int .i64 (fldK L r x 4))) := ⟨b0, b1, b2, b3, b4⟩
  have HLO : Hid (p = 0 ∨ fldK L r (l.getD (p - 1) 0) 4 ≤ fldK L r x 4) := hlo
  have HHI : Hid (∀ j, p ≤ j → j < l.length → fldK L r x 4 < fldK L r (l.getD j 0) 4) := hhi
  clear hown4 hgr4 hat4 hgr hblk hown hrow4 b0 b1 b2 b3 b4 hlo hhi
  have hne : ¬ g4 = w.heap.size := by omega
  have hne1 : ¬ w.heap.size = g4 := by omega
  have hg4' : g4 = g ∨ w.heap.size ≤ g4 := by omega
  go_wp2_with fail
  go_loopw [5] (fun iv wr => ∃ i : Nat, i ≤ l.length ∧ p ≤ i ∧ iv = .int .i64 i ∧ Row wr g4 5 (l.length + 1) (fun j c => fldK L r (holeG l x i j) c) ∧ Hid (wr.cell? ⟨w.heap.size, 0, none⟩ = some (.int .i64 (fldK L r x 0)) ∧ wr.cell? ⟨w.heap.size, 1, none⟩ = some (.int .i64 (fldK L r x 1)) ∧ wr.cell? ⟨w.heap.size, 2, none⟩ = some (.int .i64 (fldK L r x 2)) ∧ wr.cell? ⟨w.heap.size, 3, none⟩ = some (.int .i64 (fldK L r x 3)) ∧ wr.cell? ⟨w.heap.size, 4, none⟩ = some (.int .i64 (fldK L r x 4))) ∧ Hid (Blk wr g4 32 (cap4 * 5)) ∧ Hid (w.grownBy wr (some g))) (fun iv _ => (intOf iv).toNat)
  case atStart => exact ⟨l.length, Nat.le_refl _, hp, by go_num, Row.congr HR.out (fun j hj c _ => by rw [holeG_start l x j hj]), HX, HB, HG⟩
  case round =>
    clear HR HX HB HG
    obtain ⟨i, hil, hpi, rfl, hrow, HX, HB, HG⟩ := hrel
    obtain ⟨b0, b1, b2, b3, b4⟩ := HX.out
    have HR : Hid _ := hrow
    by_cases hlt : p < i
    · obtain ⟨i, rfl⟩ : ∃ q, i = q + 1 := ⟨i - 1, by omega⟩
      obtain ⟨y, hy⟩ : ∃ y, l.getD i 0 = y := ⟨_, rfl⟩
      have hgu : fldK L r x 4 < fldK L r y 4 := by rw [← hy]; exact HHI.out i (by omega) (by omega)
      have HY : Hid (l.getD i 0 = y) := hy
      have hGi : holeG l x (i + 1) i = y := (holeG_at l x i hil).trans hy
      have c0 := (hrow i (by omega) 0 (by omega)).1
      have c1 := (hrow i (by omega) 1 (by omega)).1
      have c2 := (hrow i (by omega) 2 (by omega)).1
      have c3 := (hrow i (by omega) 3 (by omega)).1
      have c4 := (hrow i (by omega) 4 (by omega)).1
      simp only [hGi, Nat.add_zero] at c0 c1 c2 c3 c4
      have t0 := hrow (i + 1) (by omega) 0 (by omega)
      have t1 := hrow (i + 1) (by omega) 1 (by omega)
      have t2 := hrow (i + 1) (by omega) 2 (by omega)
      have t3 := hrow (i + 1) (by omega) 3 (by omega)
      have t4 := hrow (i + 1) (by omega) 4 (by omega)
      rw [Nat.add_zero] at t0
      obtain ⟨t0, s0⟩ := t0
      obtain ⟨t1, s1⟩ := t1
      obtain ⟨t2, s2⟩ := t2
      obtain ⟨t3, s3⟩ := t3
      obtain ⟨t4, s4⟩ := t4
      clear hrow hy hGi
      have z0 : (0 : Int) < (i : Int) + 1 := by omega
      have z1 : (i : Int) + 1 < (l.length : Int) + 1 := by omega
      have z2 : (i : Int) < (l.length : Int) + 1 := by omega
      go_wp2_with fail
      go_quiet (fail)
      go_wp2_with fail
      go_roundw
      case rel =>
        refine ⟨i, by omega, by omega, by go_num, Row.congr (Row.set5 (Row.drewN HR.out nq) (show i + 1 < l.length + 1 by omega) (fldK L r y)) ?_, ?_, (Blk.drewN HB.out nq).set5 (i + 1) (fldK L r y), grown_set5 (grown_drewN HG.out nq) hg4' (i + 1) (fldK L r y)⟩
        · intro j _ c _
          rw [← holeG_shift l x i j, HY.out]
          by_cases e : j = i + 1
          · rw [if_pos e, if_pos e]
          · rw [if_neg e, if_neg e]
        · exact ⟨(cell_set5 _ _ _ (fldK L r y) _ _ hne1).trans b0, (cell_set5 _ _ _ (fldK L r y) _ _ hne1).trans b1, (cell_set5 _ _ _ (fldK L r y) _ _ hne1).trans b2, (cell_set5 _ _ _ (fldK L r y) _ _ hne1).trans b3, (cell_set5 _ _ _ (fldK L r y) _ _ hne1).trans b4⟩
      case measure => simp [intOf]
    · obtain rfl : i = p := by omega
      have t0 := hrow i (by omega) 0 (by omega)
      have t1 := hrow i (by omega) 1 (by omega)
      have t2 := hrow i (by omega) 2 (by omega)
      have t3 := hrow i (by omega) 3 (by omega)
      have t4 := hrow i (by omega) 4 (by omega)
      rw [Nat.add_zero] at t0
      obtain ⟨t0, s0⟩ := t0
      obtain ⟨t1, s1⟩ := t1
      obtain ⟨t2, s2⟩ := t2
      obtain ⟨t3, s3⟩ := t3
      obtain ⟨t4, s4⟩ := t4
      have z1 : (i : Int) < (l.length : Int) + 1 := by omega
      have hfin : ∀ n : Nat, Row (((((((wr.drewN n).setCell ⟨g4, i * 5, none⟩ (.int .i64 (fldK L r x 0))).setCell ⟨g4, i * 5 + 1, none⟩ (.int .i64 (fldK L r x 1))).setCell ⟨g4, i * 5 + 2, none⟩ (.int .i64 (fldK L r x 2))).setCell ⟨g4, i * 5 + 3, none⟩ (.int .i64 (fldK L r x 3))).setCell ⟨g4, i * 5 + 4, none⟩ (.int .i64 (fldK L r x 4)))) g4 5 (l.length + 1) (fun j c => fldK L r ((l.take i ++ x :: l.drop i).getD j 0) c) := fun n => by
        refine Row.congr (Row.set5 (Row.drewN HR.out n) (show i < l.length + 1 by omega) (fldK L r x)) ?_
        intro j hj c _
        rw [← holeG_end l x i j hp hj]
        by_cases e : j = i
        · rw [if_pos e, if_pos e]
        · rw [if_neg e, if_neg e]
      have hfin2 : ∀ n : Nat, ((((((wr.drewN n).setCell ⟨g4, i * 5, none⟩ (.int .i64 (fldK L r x 0))).setCell ⟨g4, i * 5 + 1, none⟩ (.int .i64 (fldK L r x 1))).setCell ⟨g4, i * 5 + 2, none⟩ (.int .i64 (fldK L r x 2))).setCell ⟨g4, i * 5 + 3, none⟩ (.int .i64 (fldK L r x 3))).setCell ⟨g4, i * 5 + 4, none⟩ (.int .i64 (fldK L r x 4))).ownsRow base 32 5 (.slice (some ⟨g4, 0, none⟩) (l.length + 1) cap4) (l.length + 1) ((l.take i ++ x :: l.drop i).flatMap (encM L r)) ∧ w.grownBy ((((((wr.drewN n).setCell ⟨g4, i * 5, none⟩ (.int .i64 (fldK L r x 0))).setCell ⟨g4, i * 5 + 1, none⟩ (.int .i64 (fldK L r x 1))).setCell ⟨g4, i * 5 + 2, none⟩ (.int .i64 (fldK L r x 2))).setCell ⟨g4, i * 5 + 3, none⟩ (.int .i64 (fldK L r x 3))).setCell ⟨g4, i * 5 + 4, none⟩ (.int .i64 (fldK L r x 4))) (some g) := fun n =>
        ⟨owns_of_row (encM_len L r) (fldK L r) (fun y c hc => encM_at L r y c hc) ((Blk.drewN HB.out n).set5 i (fldK L r x)) hbg (by simp; omega) hcap hmax 0 (hfin n), grown_set5 (grown_drewN HG.out n) hg4' i (fldK L r x)⟩
      have HF : Hid _ := hfin2
      clear hrow hfin hfin2
      rcases Nat.eq_zero_or_pos i with h0 | h0
      · subst h0
        go_wp2_with fail
        go_quiet (fail)
        go_wp2_with fail
        go_ret
        exact ⟨⟨g4, cap4, rfl, (HF.out nq).1⟩, (HF.out nq).2⟩
      · obtain ⟨q, rfl⟩ : ∃ q, i = q + 1 := ⟨i - 1, by omega⟩
        have hgu : fldK L r (l.getD q 0) 4 ≤ fldK L r x 4 := by
          rcases HLO.out with h | h
          · omega
          · exact h
        obtain ⟨y, hy⟩ : ∃ y, l.getD q 0 = y := ⟨_, rfl⟩
        rw [hy] at hgu
        have hGi : holeG l x (q + 1) q = y := (holeG_at l x q hil).trans hy
        have c4 := (HR.out q (by omega) 4 (by omega)).1
        simp only [hGi] at c4
        clear hy hGi
        have z0 : (0 : Int) < (q : Int) + 1 := by omega
        have z2 : (q : Int) < (l.length : Int) + 1 := by omega
        go_wp2_with fail
        go_quiet (fail)
        go_wp2_with fail
        go_ret
        exact ⟨⟨g4, cap4, rfl, (HF.out nq).1⟩, (HF.out nq).2⟩
end Go.Proofs.Qxb6604778a
