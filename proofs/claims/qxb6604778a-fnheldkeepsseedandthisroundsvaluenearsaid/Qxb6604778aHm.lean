/-
  A SLICE OF INTS OF THE CALL's OWN, SORTED, COMPACTED, CUT BY A PREDICATE: the kit's contracts in one vocabulary; 'zzToWalks'.
-/
import Derived.Test.Qxb6604778aWo
import Derived.Test.Qxb6604778aShelg
import Derived.Test.Qxb6604778aHp
namespace Go.Proofs.Qxb6604778a
open Go.RowKit Go.Sort

theorem Try.info3 : (Try.prog.info? 3).map (fun i => (i.zero, i.size, i.bytes)) = some (some (.int .i64 0), 1, 8) := by kernel_rfl

def enc1 (q : Int) : List Value := [.int .i64 q]
theorem enc1_len (q : Int) : (enc1 q).length = 1 := rfl
theorem enc1_at (q : Int) (c : Nat) (hc : c < 1) : (enc1 q)[c]? = some (.int .i64 ((fun (x : Int) (_ : Nat) => x) q c)) := by
  obtain rfl : c = 0 := by omega
  rfl
/-- the slice at block g holds the list A, in a row of the call's own. -/
def Own1 (w : World) (base g cap : Nat) (A : List Int) : Prop := w.ownsRow base 3 1 (.slice (some ⟨g, 0, none⟩) A.length cap) A.length (A.flatMap enc1)

theorem Own1.row {w : World} {base g cap : Nat} {A : List Int} (h : Own1 w base g cap A) : Row w g 1 A.length (fun i _ => A.getD i 0) :=
  row_of_owns enc1_len (fun (x : Int) (_ : Nat) => x) enc1_at h rfl 0
theorem Own1.holds {w : World} {base g cap : Nat} {A : List Int} (h : Own1 w base g cap A) : Holds (Value.int .i64) w g 0 A.toArray := by
  intro j hj
  have hj' : j < A.length := by simpa using hj
  have := h.row j hj' 0 (by omega)
  rw [Nat.mul_one, Nat.add_zero] at this
  rw [Nat.zero_add]
  have e : A.toArray[j]! = A.getD j 0 := by simp [List.getElem!_eq_getElem?_getD]
  rw [e]; exact this
theorem Own1.facts {w : World} {base g cap : Nat} {A : List Int} (h : Own1 w base g cap A) : Blk w g 3 (cap * 1) ∧ A.length ≤ cap ∧ cap ≤ maxLen ∧ base ≤ g := blk_of_owns h
theorem Own1.lt {w : World} {base g cap : Nat} {A : List Int} (h : Own1 w base g cap A) : g < w.heap.size := (World.ownsRow.lt h g rfl).2
theorem own1_mk {w : World} {base g cap : Nat} {A : List Int} {d : Array Int} (hb : Blk w g 3 (cap * 1)) (hbase : base ≤ g) (hc : A.length ≤ cap) (hm : cap ≤ maxLen) (hd : Holds (Value.int .i64) w g 0 d) (hl : A.length ≤ d.size) (e : ∀ j, j < A.length → d[j]! = A.getD j 0) : Own1 w base g cap A := by
  refine owns_of_row enc1_len (fun (x : Int) (_ : Nat) => x) enc1_at hb hbase rfl hc hm 0 ?_
  intro i hi c hcc
  obtain rfl : c = 0 := by omega
  have := hd i (by omega)
  rw [Nat.mul_one, Nat.add_zero]
  rw [Nat.zero_add, e i hi] at this
  exact this
theorem blk_putRow {w : World} {g e sz n : Nat} {d : Array Int} {os : Array Obj} (h : Blk w g e sz) : Blk (grow (putRow (Value.int .i64) (Sort.ahead w n) g 0 d) os) g e sz := by
  obtain ⟨cur, h1, h2⟩ := h
  have hlt : g < w.heap.size := (Array.getElem?_eq_some_iff.1 h1).1
  refine ⟨putCells (Value.int .i64) 0 d cur, ?_, by simpa [putCells] using h2⟩
  rw [heap_grow_old _ _ (by simpa [putRow, mapBlock, Sort.ahead] using hlt)]
  simp [putRow, mapBlock, Sort.ahead, Array.getElem?_modify, h1, onCells]
theorem grown_putRow (w : World) (n g : Nat) (d : Array Int) (os : Array Obj) : w.grownBy (grow (putRow (Value.int .i64) (Sort.ahead w n) g 0 d) os) (some g) := by
  refine ⟨rfl, rfl, rfl, by rw [size_grow, size_putRow]; exact Nat.le_add_right _ _, fun k hk hne => ?_⟩
  have : (putRow (Value.int .i64) (Sort.ahead w n) g 0 d).heap[k]? = w.heap[k]? := by
    simp only [putRow, mapBlock, Sort.ahead, Array.getElem?_modify]
    rw [if_neg (fun e => hne (by rw [e]))]
  rw [heap_grow_old _ _ (by rw [size_putRow]; exact hk), this]
theorem getD_toArray (A : List Int) (j : Nat) : A.toArray[j]! = A.getD j 0 := by simp [List.getElem!_eq_getElem?_getD]

/-- slices.Sort. -/
theorem sort1 (base g cap : Nat) (A : List Int) (hl : A.length ≤ 1000000) (w : World) (h : Own1 w base g cap A) :
    Calls Try.prog 24 #[.slice (some ⟨g, 0, none⟩) A.length cap] w fun e w' => e = .returned (.tuple #[]) ∧ Own1 w' base g cap (A.mergeSort fun x y => decide (x ≤ y)) ∧ w.grownBy w' (some g) := by
  have hf := h.facts
  refine (Any.slices_Sort_int Try.sortI g 0 cap A w h.holds h.lt (by omega)).mono ?_
  rintro e w' ⟨rfl, n, os, rfl⟩
  refine ⟨rfl, ?_, grown_putRow w n g _ os⟩
  have hH := holds_grow (Value.int .i64) _ os g 0 _ (by rw [size_putRow]; exact h.lt) (holds_putRow (Value.int .i64) (Sort.ahead w n) g 0 A.toArray (A.mergeSort fun x y => decide (x ≤ y)).toArray h.holds (by simp))
  refine own1_mk (blk_putRow hf.1) hf.2.2.2 (by rw [List.length_mergeSort]; exact hf.2.1) hf.2.2.1 hH (by simp) (fun j _ => getD_toArray _ j)

/-- slices.Compact. -/
theorem comp1 (base g cap : Nat) (A : List Int) (hl : A.length ≤ 1000000) (w : World) (h : Own1 w base g cap A) :
    Calls Try.prog 25 #[.slice (some ⟨g, 0, none⟩) A.length cap] w fun e w' => e = .returned (.slice (some ⟨g, 0, none⟩) (Lib.compact A).length cap) ∧ Own1 w' base g cap (Lib.compact A) ∧ w.grownBy w' (some g) := by
  have hf := h.facts
  refine (Any.slices_Compact_int Try.compI g 0 cap A w h.holds (by omega) hf.2.1).mono ?_
  rintro e w' ⟨rfl, n, rfl⟩
  have hle : (Lib.compact A).length ≤ A.length := by
    unfold Lib.compact Lib.compactUpTo
    rw [List.length_map]
    have := List.length_filter_le (Lib.keeps A.toArray) (List.range A.length)
    simpa using this
  have eg : putRow (Value.int .i64) (Sort.ahead w n) g 0 (Lib.compact A ++ List.replicate (A.length - (Lib.compact A).length) 0).toArray = grow (putRow (Value.int .i64) (Sort.ahead w n) g 0 (Lib.compact A ++ List.replicate (A.length - (Lib.compact A).length) 0).toArray) #[] := (grow_empty _).symm
  refine ⟨rfl, ?_, by rw [eg]; exact grown_putRow w n g _ #[]⟩
  have hH := holds_putRow (Value.int .i64) (Sort.ahead w n) g 0 A.toArray (Lib.compact A ++ List.replicate (A.length - (Lib.compact A).length) 0).toArray h.holds (by simp; omega)
  refine own1_mk (by rw [eg]; exact blk_putRow hf.1) hf.2.2.2 (by omega) hf.2.2.1 hH (by simp) (fun j hj => ?_)
  rw [getD_toArray, List.getD_eq_getElem?_getD, List.getD_eq_getElem?_getD, List.getElem?_append_left hj]

/-! ### the predicate of 'held': it captures the position reached and the walk -/
set_option maxHeartbeats 400000 in
theorem gives23 (rc tp x : Int) (B1 B2 : Nat) (W : World) (h1 : W.cell? ⟨B1, 0, none⟩ = some (.int .i64 rc)) (h2 : W.cell? ⟨B2, 2, none⟩ = some (.int .i64 tp)) :
    FnGives Try.prog 23 #[.pointer (some ⟨B1, 0, none⟩), .pointer (some ⟨B2, 0, none⟩)] #[.int .i64 x] (.bool (decide (rc < x) && decide (x ≤ tp))) W := by
  show Calls Try.prog 23 #[.int .i64 x, .pointer (some ⟨B1, 0, none⟩), .pointer (some ⟨B2, 0, none⟩)] W _
  by_cases c1 : rc < x
  · by_cases c2 : x ≤ tp
    · go_enter Try.func23, Try.ntmps23
      go_wp2
      go_ret
      exact ⟨ret_bool (by simp [c1, c2]), 0, rfl⟩
    · go_enter Try.func23, Try.ntmps23
      go_wp2
      go_ret
      exact ⟨ret_bool (by simp [c2]), 0, rfl⟩
  · go_enter Try.func23, Try.ntmps23
    go_wp2
    go_ret
    exact ⟨ret_bool (by simp; omega), 0, rfl⟩

def cutL (rc tp : Int) (A : List Int) : List Int := A.filter fun q => !(decide (rc < q) && decide (q ≤ tp))
theorem mem_cutL {rc tp q : Int} {A : List Int} : q ∈ cutL rc tp A ↔ q ∈ A ∧ ¬ (rc < q ∧ q ≤ tp) := by
  unfold cutL; rw [List.mem_filter]; simp; intro _; omega

/-- slices.DeleteFunc at that predicate. -/
theorem del1 (base g cap : Nat) (A : List Int) (hl : A.length ≤ 1000000) (rc tp : Int) (B1 B2 : Nat) (w : World) (h : Own1 w base g cap A) (hB1 : B1 < w.heap.size) (hB2 : B2 < w.heap.size) (n1 : B1 ≠ g) (n2 : B2 ≠ g)
    (h1 : w.cell? ⟨B1, 0, none⟩ = some (.int .i64 rc)) (h2 : w.cell? ⟨B2, 2, none⟩ = some (.int .i64 tp)) :
    Calls Try.prog 22 #[.slice (some ⟨g, 0, none⟩) A.length cap, .func (.func 23) #[] #[.pointer (some ⟨B1, 0, none⟩), .pointer (some ⟨B2, 0, none⟩)]] w fun e w' =>
      e = .returned (.slice (some ⟨g, 0, none⟩) (cutL rc tp A).length cap) ∧ Own1 w' base g cap (cutL rc tp A) ∧ w.grownBy w' (some g) := by
  have hf := h.facts
  have eg : ∀ args w, (callFunc 23 args).run Try.prog w = .ok (.enter 23 args) w := enters_of Try.func23 (by kernel_rfl) rfl
  have hpa : PredAt Try.prog 23 #[.pointer (some ⟨B1, 0, none⟩), .pointer (some ⟨B2, 0, none⟩)] (Value.int .i64) (fun x => decide (rc < x) && decide (x ≤ tp)) w :=
    fun W x hb => gives23 rc tp x B1 B2 W ((hb.cell (p := ⟨B1, 0, none⟩) hB1).trans h1) ((hb.cell (p := ⟨B2, 2, none⟩) hB2).trans h2)
  have hpo : PredOver Try.prog 23 #[.pointer (some ⟨B1, 0, none⟩), .pointer (some ⟨B2, 0, none⟩)] (Value.int .i64) (fun x => decide (rc < x) && decide (x ≤ tp)) g 0 A.toArray.size w :=
    fun n os dk x _ => gives23 rc tp x B1 B2 _
      (by unfold sortWorld; rw [cell?_grow _ _ _ (by show B1 < (putRow _ _ _ _ _).heap.size; rw [size_putRow]; exact hB1), cell?_putRow_other _ _ g 0 _ _ (Or.inl n1)]; exact h1)
      (by unfold sortWorld; rw [cell?_grow _ _ _ (by show B2 < (putRow _ _ _ _ _).heap.size; rw [size_putRow]; exact hB2), cell?_putRow_other _ _ g 0 _ _ (Or.inl n2)]; exact h2)
  have hc := AnyE.slices_DeleteFunc Try.delI (Value.int .i64) (fun _ => rfl) (fun x => decide (rc < x) && decide (x ≤ tp)) 23 #[.pointer (some ⟨B1, 0, none⟩), .pointer (some ⟨B2, 0, none⟩)] eg 0 Try.zeroValue3 g 0 cap A.toArray w hpa hpo h.holds (by simp; omega) (by simpa using hf.2.1)
  have ec : (A.toArray.toList.filter fun x => !(decide (rc < x) && decide (x ≤ tp))) = cutL rc tp A := rfl
  rw [List.size_toArray, ec] at hc
  refine Calls.mono hc ?_
  rintro e w' ⟨rfl, n, rfl⟩
  have hle : (cutL rc tp A).length ≤ A.length := List.length_filter_le _ _
  have eg : putRow (Value.int .i64) (Sort.ahead w n) g 0 (cutL rc tp A ++ List.replicate (A.length - (cutL rc tp A).length) 0).toArray = grow (putRow (Value.int .i64) (Sort.ahead w n) g 0 (cutL rc tp A ++ List.replicate (A.length - (cutL rc tp A).length) 0).toArray) #[] := (grow_empty _).symm
  refine ⟨rfl, ?_, ?_⟩
  · have hH := holds_putRow (Value.int .i64) (Sort.ahead w n) g 0 A.toArray (cutL rc tp A ++ List.replicate (A.length - (cutL rc tp A).length) 0).toArray h.holds (by simp; omega)
    refine own1_mk (d := (cutL rc tp A ++ List.replicate (A.length - (cutL rc tp A).length) 0).toArray) ?_ hf.2.2.2 (by omega) hf.2.2.1 hH (by simp) (fun j hj => ?_)
    · rw [eg]; exact blk_putRow hf.1
    · rw [getD_toArray, List.getD_eq_getElem?_getD, List.getD_eq_getElem?_getD, List.getElem?_append_left hj]
  · rw [eg]; exact grown_putRow w n g _ #[]
end Go.Proofs.Qxb6604778a
