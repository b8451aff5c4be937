/-
  ROWS OF STRUCTS IN MEMORY: small laws on worlds; and the sort of the walks by their due.
-/
import Derived.Test.Qxb6604778aLw
import Derived.Test.Qxb6604778aWp
import Derived.Test.Qxb6604778aShelf
namespace Go.Proofs.Qxb6604778a
open Go.RowKit Go.Sort

/-- n elements of k integers each lie in block g from its head on, and may be written. -/
def Row (w : World) (g k n : Nat) (F : Nat → Nat → Int) : Prop :=
  ∀ i, i < n → ∀ c, c < k → w.cell? ⟨g, i * k + c, none⟩ = some (.int .i64 (F i c)) ∧ w.frozen? ⟨g, i * k + c, none⟩ = false

theorem Row.block {w w' : World} {g k n : Nat} {F : Nat → Nat → Int} (h : Row w g k n F) (hb : w'.heap[g]? = w.heap[g]?) : Row w' g k n F := fun i hi c hc =>
  ⟨(World.cell?_of_block (w := w) (a := ⟨g, i * k + c, none⟩) hb).trans (h i hi c hc).1, (World.frozen?_of_block (w := w) (a := ⟨g, i * k + c, none⟩) hb).trans (h i hi c hc).2⟩
theorem Row.below {w w' : World} {g k n B : Nat} {F : Nat → Nat → Int} (h : Row w g k n F) (hB : Below B w w') (hg : g < B) : Row w' g k n F := h.block (hB.block g hg)
theorem Row.congr {w : World} {g k n : Nat} {F G : Nat → Nat → Int} (h : Row w g k n F) (e : ∀ i, i < n → ∀ c, c < k → F i c = G i c) : Row w g k n G := fun i hi c hc => by
  rw [← e i hi c hc]; exact h i hi c hc
theorem Row.mono {w : World} {g k n m : Nat} {F : Nat → Nat → Int} (h : Row w g k n F) (hm : m ≤ n) : Row w g k m F := fun i hi => h i (Nat.lt_of_lt_of_le hi hm)

theorem div_mul_add {k i j c d : Nat} (hc : c < k) (hd : d < k) (h : i * k + c = j * k + d) : i = j ∧ c = d := by
  have hk : 0 < k := by omega
  have e1 : (i * k + c) / k = i := by rw [Nat.mul_comm, Nat.mul_add_div hk, Nat.div_eq_of_lt hc, Nat.add_zero]
  have e2 : (j * k + d) / k = j := by rw [Nat.mul_comm, Nat.mul_add_div hk, Nat.div_eq_of_lt hd, Nat.add_zero]
  have e : i = j := by rw [← e1, h, e2]
  subst e
  exact ⟨rfl, by omega⟩
/-- one cell of a row is written. -/
theorem Row.set {w : World} {g k n : Nat} {F : Nat → Nat → Int} (h : Row w g k n F) {i c : Nat} (hi : i < n) (hc : c < k) (x : Int) :
    Row (w.setCell ⟨g, i * k + c, none⟩ (.int .i64 x)) g k n (fun j d => if j = i ∧ d = c then x else F j d) := by
  intro j hj d hd
  refine ⟨?_, by rw [World.frozen?_setCell]; exact (h j hj d hd).2⟩
  by_cases e : j = i ∧ d = c
  · obtain ⟨rfl, rfl⟩ := e
    rw [World.cell?_setCell_same _ _ _ (h _ hj _ hd).1]; simp
  · rw [World.cell?_setCell_other _ _ _ _ (fun q => e (by
      simp only [Addr.mk.injEq, true_and, and_true] at q
      obtain ⟨q1, q2⟩ := div_mul_add hc hd q
      exact ⟨q1.symm, q2.symm⟩)), (h j hj d hd).1]
    simp only [if_neg e]
theorem Row.drew {w : World} {g k n : Nat} {F : Nat → Nat → Int} (h : Row w g k n F) : Row w.drew g k n F := h

theorem below_grow (w : World) (n : Nat) (os : Array Obj) : Below w.heap.size w (grow (w.drewN n) os) :=
  ⟨rfl, rfl, rfl, by rw [size_grow]; exact Nat.le_add_right _ _, fun k hk => heap_grow_old (w.drewN n) os hk⟩
theorem drewN_grow (w : World) (os : Array Obj) (n : Nat) : (grow w os).drewN n = grow (w.drewN n) os := rfl
theorem grow2 (w : World) (n m : Nat) (os os' : Array Obj) : grow ((grow (w.drewN n) os).drewN m) os' = grow (w.drewN (n + m)) (os ++ os') := by
  rw [drewN_grow, grow_grow, World.drewN_drewN]

/-! ### the flat row of a list -/
theorem flat_get {α : Type} (enc : α → List Value) (k : Nat) (hk : ∀ x, (enc x).length = k) : ∀ (l : List α) (i c : Nat) (hi : i < l.length) (_ : c < k), (l.flatMap enc)[i * k + c]? = (enc l[i])[c]?
  | [], i, _, hi, _ => absurd hi (by simp)
  | x :: l, 0, c, _, hc => by
    rw [List.flatMap_cons, Nat.zero_mul, Nat.zero_add, List.getElem?_append_left (by rw [hk]; exact hc)]; rfl
  | x :: l, i + 1, c, hi, hc => by
    rw [List.flatMap_cons, List.getElem?_append_right (by rw [hk, Nat.add_mul, Nat.one_mul]; omega), hk, show (i + 1) * k + c - k = i * k + c by rw [Nat.add_mul, Nat.one_mul]; omega]
    exact flat_get enc k hk l i c (by simpa using hi) hc
theorem flat_len {α : Type} (enc : α → List Value) (k : Nat) (hk : ∀ x, (enc x).length = k) : ∀ (l : List α), (l.flatMap enc).length = l.length * k
  | [] => by simp
  | x :: l => by rw [List.flatMap_cons, List.length_append, hk, flat_len enc k hk l, List.length_cons, Nat.add_mul, Nat.one_mul]; omega

/-- what an owned slice of structs is good for: its row. -/
theorem row_of_owns {α : Type} {w : World} {base e k g cap n : Nat} {l : List α} {enc : α → List Value} (hk : ∀ x, (enc x).length = k) (fld : α → Nat → Int) (he : ∀ x c, c < k → (enc x)[c]? = some (.int .i64 (fld x c)))
    (h : w.ownsRow base e k (.slice (some ⟨g, 0, none⟩) n cap) n (l.flatMap enc)) (hn : n = l.length) (d : α) : Row w g k n (fun i c => fld (l.getD i d) c) := by
  intro i hi c hc
  have hi' : i < l.length := by omega
  have hd : l.getD i d = l[i] := by simp [List.getD, hi']
  have a1 := h.cells (g := g) rfl (i * k + c) (.int .i64 (fld l[i] c)) (by rw [flat_get enc k hk l i c hi' hc]; exact he _ _ hc)
  have e1 : (⟨g, 0, none⟩ : Addr).add (i * k + c) = ⟨g, i * k + c, none⟩ := by simp [Addr.add]; omega
  rw [e1] at a1
  rcases h.2 with ⟨h2, _⟩ | ⟨g', cap', cur, h2, _, hb, _⟩
  · simp at h2
  · simp at h2
    obtain ⟨rfl, _⟩ := h2
    exact ⟨by rw [a1]; show some _ = some (Value.int IntKind.i64 (fld (l.getD i d) c)); rw [hd], by simp [World.frozen?, hb]⟩

theorem holdsK_of_row {α : Type} [Inhabited α] {w : World} {k g : Nat} {d : Array α} {enc : α → List Value} {fld : α → Nat → Int} (hk0 : 0 < k) (he : ∀ x c, c < k → (enc x)[c]! = .int .i64 (fld x c))
    (h : Row w g k d.size (fun i c => fld d[i]! c)) : HoldsK enc k w g 0 d := by
  intro t ht
  rw [size_flatK] at ht
  have h1 : t / k < d.size := Nat.div_lt_of_lt_mul (by rw [Nat.mul_comm]; exact ht)
  have h2 : t % k < k := Nat.mod_lt _ hk0
  have := h (t / k) h1 (t % k) h2
  rw [Nat.mul_comm, Nat.div_add_mod] at this
  rw [get_flatK _ _ _ _ ht, he _ _ h2, Nat.zero_add]
  exact this
theorem row_of_holdsK {α : Type} [Inhabited α] {w : World} {k g : Nat} {d : Array α} {enc : α → List Value} {fld : α → Nat → Int} (he : ∀ x c, c < k → (enc x)[c]! = .int .i64 (fld x c))
    (h : HoldsK enc k w g 0 d) : Row w g k d.size (fun i c => fld d[i]! c) := fun i hi c hc => by
  have := HoldsK.cell h hi hc
  rw [Nat.zero_add, he _ _ hc] at this
  exact this
theorem putRow_block (w : World) (n g : Nat) (F : Array Value) (os : Array Obj) (k : Nat) (hk : k < w.heap.size) (hne : k ≠ g) : (grow (putRow id (Sort.ahead w n) g 0 F) os).heap[k]? = w.heap[k]? := by
  have : (putRow id (Sort.ahead w n) g 0 F).heap[k]? = w.heap[k]? := by
    simp only [putRow, mapBlock, Sort.ahead, Array.getElem?_modify]
    rw [if_neg (by omega)]
  rw [heap_grow_old _ _ (by simpa [putRow, mapBlock, Sort.ahead] using hk), this]

/-! ### a walk's six cells; the closure; the sort -/
def fldK (L : Nat) (r : Int) (k c : Nat) : Int :=
  match c with
  | 0 => (min k 60 : Nat) + 2
  | 1 => lowW L r (min k 60)
  | 2 => topW L r (min k 60)
  | 3 => bgn r (min k 60)
  | 4 => duo r (min k 60)
  | _ => 0
def encK (L : Nat) (r : Int) (k : Nat) : List Value := [.int .i64 (fldK L r k 0), .int .i64 (fldK L r k 1), .int .i64 (fldK L r k 2), .int .i64 (fldK L r k 3), .int .i64 (fldK L r k 4), .int .i64 (fldK L r k 5)]
theorem encK_len (L : Nat) (r : Int) (k : Nat) : (encK L r k).length = 6 := rfl
theorem encK_at (L : Nat) (r : Int) (k c : Nat) (hc : c < 6) : (encK L r k)[c]? = some (.int .i64 (fldK L r k c)) := by
  match c, hc with
  | 0, _ => rfl
  | 1, _ => rfl
  | 2, _ => rfl
  | 3, _ => rfl
  | 4, _ => rfl
  | 5, _ => rfl
  | c + 6, h => omega
theorem encK_at! (L : Nat) (r : Int) (k c : Nat) (hc : c < 6) : (encK L r k)[c]! = .int .i64 (fldK L r k c) := by
  rw [List.getElem!_eq_getElem?_getD, encK_at L r k c hc]; rfl
theorem encK_one (L : Nat) (r : Int) (k : Nat) : ∀ v ∈ encK L r k, v.oneCell' = true := by
  intro v hv
  simp [encK] at hv
  rcases hv with rfl | rfl | rfl | rfl | rfl | rfl <;> rfl
def cfK (r : Int) (x y : Nat) : Int := duo r (min x 60) - duo r (min y 60)
theorem swoK (r : Int) : SWO (ltOf (cfK r)) where
  irrefl x := by simp [ltOf, cfK]
  trans x y z h1 h2 := by unfold ltOf cfK at *; simp only [decide_eq_true_eq] at *; omega
  ntrans x y z h1 h2 := by unfold ltOf cfK at *; simp only [decide_eq_false_iff_not] at *; omega

theorem duo_bd {r : Int} (h0 : 0 ≤ r) (h1 : r < 4611686018427387904) {k : Nat} (hk : k ≤ 60) : 0 ≤ duo r k ∧ duo r k ≤ 6917529027641081856 := by
  have a := bgn_nonneg h0 k
  have b := bgn_le r k
  have c := pw_pos (k + 1)
  have d : pw (k + 1) ≤ 2305843009213693952 := by rw [← pw_61]; exact pw_mono (by omega)
  unfold duo; omega

set_option maxHeartbeats 400000 in
theorem closure_any (a0 a1 a2 a3 a4 a5 b0 b1 b2 b3 b4 b5 : Int) (h0 : 0 ≤ a4) (h1 : a4 ≤ 6917529027641081856) (h2 : 0 ≤ b4) (h3 : b4 ≤ 6917529027641081856) (w : World) :
    Calls Try.prog 21 #[.agg #[.int .i64 a0, .int .i64 a1, .int .i64 a2, .int .i64 a3, .int .i64 a4, .int .i64 a5], .agg #[.int .i64 b0, .int .i64 b1, .int .i64 b2, .int .i64 b3, .int .i64 b4, .int .i64 b5]] w
      fun e w' => e = .returned (.int .i64 (a4 - b4)) ∧ ∃ q os', w' = grow (w.drewN q) os' := by
  go_enter Try.func21, Try.ntmps21
  go_wp2
  go_ret
  exact ⟨rfl, 0, _, by rw [alloc_eq_grow, alloc_eq_grow, grow_grow]; rfl⟩

set_option maxHeartbeats 400000 in
theorem span_any (ln bu : Int) (L : Nat) (hL : L ≤ 62) (w : World) :
    Calls Try.prog 19 #[.agg #[.int .i64 ln, .int .i64 L, .int .i64 bu]] w fun e w' => e = .returned (.int .i64 (pw L)) ∧ ∃ q os', w' = grow (w.drewN q) os' := by
  have p1 := pw_pos L
  have p2 : pw L ≤ 4611686018427387904 := by rw [← pw_62]; exact pw_mono (by omega)
  have e1 : wrap64 ((2 : Int) ^ L) = pw L := IntWalk.wrap64_in _ ⟨by unfold pw at p1 p2; omega, by unfold pw at p1 p2; omega⟩
  go_enter Try.func19, Try.ntmps19
  go_wp2
  go_ret
  exact ⟨ret_int e1, 0, _, by rw [alloc_eq_grow]; rfl⟩

theorem hidden_drew {w wr : World} (h : Hid (∃ q os', wr = grow (w.drewN q) os')) (n : Nat) : Hid (∃ q os', wr.drewN n = grow (w.drewN q) os') := by
  obtain ⟨q, os, h⟩ := h.out
  exact ⟨q + n, os, by rw [h, drewN_grow, World.drewN_drewN]⟩
set_option maxHeartbeats 400000 in
theorem later_grown (ln lv bu r due : Int) (w : World) (hr0 : -4611686018427387904 ≤ r) (hr1 : r ≤ 4611686018427387904) (hd0 : -4611686018427387904 ≤ due) (hd1 : due ≤ 4611686018427387904) (hdr : due - r ≤ 4611686018427387904) :
    Calls Try.prog 13 #[.agg #[.int .i64 ln, .int .i64 lv, .int .i64 bu], .int .i64 r, .int .i64 due] w fun e w' => e = .returned (.int .i64 (wrap64 (lateN lv r due))) ∧ ∃ q os', w' = grow (w.drewN q) os' := by
  go_enter Try.func13, Try.ntmps13
  go_wp2
  go_loopw [7, 8] (fun n j wr => ∃ k : Nat, k ≤ 61 ∧ j = .int .i64 (k + 2) ∧ n = .int .i64 (wrap64 (sumTo (lateT lv r due) k)) ∧ wr.cell? ⟨w.heap.size, 1, none⟩ = some (.int .i64 lv) ∧ Hid (∃ q os', wr = grow (w.drewN q) os')) (fun _ j _ => 100 - (intOf j).toNat)
  case atStart => exact ⟨0, by omega, rfl, val_int (by rw [sumTo_zero, wrap64_zero]), by simp, ⟨0, _, alloc_eq_grow w _⟩⟩
  case round =>
    obtain ⟨k, hk, rfl, rfl, hc, hB⟩ := hrel
    have p1 := pw_pos (k + 1)
    have p2 : pw (k + 1) ≤ 4611686018427387904 := by rw [← pw_62]; exact pw_mono (by omega)
    have e1 : wrap64 ((2 : Int) ^ (k + 1)) = pw (k + 1) := IntWalk.wrap64_in _ ⟨by unfold pw at p1 p2; omega, by unfold pw at p1 p2; omega⟩
    have e1' : wrap64 ((2 : Int) ^ (k + 2 - 1)) = pw (k + 1) := e1
    have e2 : (2 : Int) ^ (k + 2) = pw (k + 2) := rfl
    have p4 : 4 ≤ pw (k + 2) := by have a := pw_mono (show 2 ≤ k + 2 by omega); have b : pw 2 = 4 := by decide
                                   omega
    by_cases hg : (k : Int) + 2 ≤ lv ∧ pw (k + 1) < due - r
    · obtain ⟨g1, g2⟩ := hg
      have hk2 : k ≤ 60 := by
        rcases Nat.lt_or_ge k 61 with h | h
        · omega
        · have e := pw_mono (show 62 ≤ k + 1 by omega); rw [pw_62] at e; omega
      have b1 := div_bd r (pw (k + 2)) (by omega) (by omega) (by omega)
      have b2 := div_bd (due - pw (k + 1)) (pw (k + 2)) (by omega) (by omega) (by omega)
      obtain ⟨b10, b11⟩ := b1
      obtain ⟨b20, b21⟩ := b2
      by_cases hq : r / pw (k + 2) + 1 ≤ (due - pw (k + 1)) / pw (k + 2)
      · have F : Hid (sumTo (lateT lv r due) (k + 1) = sumTo (lateT lv r due) k + ((due - pw (k + 1)) / pw (k + 2) - (r / pw (k + 2) + 1) + 1) * (pw (k + 1) - 1)) := by
          refine (?_ : _ = _); rw [sumTo_succ, lateT, if_pos ⟨g1, g2, hq⟩]
        go_wp2
        go_quiet (fail)
        go_wp2
        go_roundw
        case rel => exact ⟨k + 1, by omega, by go_num, val_int (by rw [F.out, wrap64_wrap_add, wrap64_add_wrap]), by simp [hc], hidden_drew hB _⟩
        case measure => simp [intOf]; omega
      · have F : Hid (sumTo (lateT lv r due) (k + 1) = sumTo (lateT lv r due) k) := by
          refine (?_ : _ = _); rw [sumTo_succ, lateT, if_neg (fun h => hq h.2.2)]; omega
        go_wp2
        go_quiet (fail)
        go_wp2
        go_roundw
        case rel => exact ⟨k + 1, by omega, by go_num, val_int (by rw [F.out]), by simp [hc], hidden_drew hB _⟩
        case measure => simp [intOf]; omega
    · have F : Hid (sumTo (lateT lv r due) k = lateN lv r due) := lateN_stop lv r due k (by omega) hg
      by_cases g1 : (k : Int) + 2 ≤ lv
      · have g2 : due - r ≤ pw (k + 1) := by
          rcases Int.lt_or_le (pw (k + 1)) (due - r) with h | h
          · exact absurd ⟨g1, h⟩ hg
          · exact h
        clear hg
        go_wp2
        go_ret
        exact ⟨ret_int (by rw [F.out]), hB.out⟩
      · clear hg
        go_wp2
        go_ret
        exact ⟨ret_int (by rw [F.out]), hB.out⟩


theorem isAgg46 (w : World) : (isAgg 46).run Try.prog w = .ok true w := Try.isAgg46 w
theorem sizeOf46 (w : World) : (Go.sizeOf 46).run Try.prog w = .ok 6 w := Try.sizeOf46 w

/-- slices.SortFunc at the walks: the row holds them in the order of their due; no other old block has turned. -/
theorem sort_any (L : Nat) (r : Int) (n g cap : Nat) (hr0 : 0 ≤ r) (hr1 : r < 4611686018427387904) (hn : n ≤ 61) (w : World) (hg : g < w.heap.size) (hrow : Row w g 6 (openL r n).length (fun i c => fldK L r ((openL r n).getD i 0) c)) :
    Calls Try.prog 20 #[.slice (some ⟨g, 0, none⟩) (openL r n).length cap, .func (.func 21) #[] #[]] w fun e w' =>
      e = .returned (.tuple #[]) ∧ Row w' g 6 (sorL r n).length (fun i c => fldK L r ((sorL r n).getD i 0) c) ∧ w.grownBy w' (some g) := by
  have eg : ∀ args w, (callFunc 21 args).run Try.prog w = .ok (.enter 21 args) w := enters_of Try.func21 (by kernel_rfl) rfl
  have hcmp : CmpLays Try.prog 21 #[] (encK L r) 6 (cfK r) g 0 (openL r n).toArray.size w := fun m os dk _ x y => by
    have hx := duo_bd hr0 hr1 (Nat.min_le_right x 60)
    have hy := duo_bd hr0 hr1 (Nat.min_le_right y 60)
    exact closure_any _ _ _ _ (duo r (min x 60)) _ _ _ _ _ (duo r (min y 60)) _ hx.1 hx.2 hy.1 hy.2 _
  have hH : HoldsK (encK L r) 6 w g 0 (openL r n).toArray := holdsK_of_row (by omega) (encK_at! L r) (by
    refine Row.congr (by simpa using hrow) ?_
    intro i hi c hc
    simp [List.getElem!_eq_getElem?_getD])
  have hlen := openL_length r n
  have h := AnyQ.slices_SortFunc Try.sortWk 6 isAgg46 sizeOf46 (encK L r) (encK_len L r) (encK_one L r) (cfK r) (swoK r) 21 #[] g 0 cap (openL r n).toArray w eg hcmp hH hg (by simp; omega)
  rw [List.size_toArray] at h
  refine Calls.mono h ?_
  rintro e w' ⟨rfl, d', m, os, hp, hs, rfl⟩
  have hsz : d'.size = (openL r n).toArray.size := hp.1
  have hrow' : Row (sortWorldK (encK L r) 6 w g 0 m d' os) g 6 d'.size (fun i c => fldK L r d'[i]! c) :=
    row_of_holdsK (encK_at! L r) (holdsK_sortWorldK_c (encK L r) 6 w g 0 (openL r n).toArray d' m os hH hg hsz)
  have hpm : d'.toList.Perm (openL r n) := by
    have := hp.2.2
    rw [Array.extract_eq_self_of_le (by rw [hsz]; simp), Array.extract_eq_self_of_le (by simp)] at this
    simpa using this
  have hle : ∀ k, k ∈ d'.toList → min k 60 = k := fun k hk => by
    have := (mem_openL.1 (hpm.subset hk)).1; omega
  have hsort : d'.toList.Pairwise (fun i k => duo r i < duo r k) := by
    have hnd : d'.toList.Nodup := hpm.symm.nodup (List.Pairwise.filter _ List.nodup_range)
    rw [List.pairwise_iff_getElem]
    intro i j hi hj hij
    have hji := hs i j (Nat.zero_le _) hij (by rw [← List.size_toArray, ← hsz]; simpa using hj)
    rw [getElem!_pos d' i (by simpa using hi), getElem!_pos d' j (by simpa using hj)] at hji
    have mi := hle d'[i] (by simp)
    have mj := hle d'[j] (by simp)
    unfold ltOf cfK at hji
    rw [mi, mj] at hji
    simp only [decide_eq_false_iff_not] at hji
    have hne : duo r d'[i] ≠ duo r d'[j] := fun e => by
      have := (List.pairwise_iff_getElem.1 hnd) i j hi hj hij
      exact this (duo_inj r e)
    show duo r d'[i] < duo r d'[j]
    omega
  have heq : d'.toList = sorL r n := perm_sorted_eq (duo r) _ _ (hpm.trans (sorL_perm r n).symm) hsort (sorL_sorted r n)
  refine ⟨rfl, ?_, ?_⟩
  · have hl : d'.size = (sorL r n).length := by rw [← heq]; simp
    rw [hl] at hrow'
    refine hrow'.congr ?_
    intro i hi c hc
    rw [← heq]
    simp [List.getD, Array.getElem!_eq_getD]
  · exact ⟨rfl, rfl, rfl, size_sortWorldK_c _ _ _ _ _ _ _ _, fun k hk hne => putRow_block w m g _ os k hk (fun e => hne (by rw [e]))⟩
end Go.Proofs.Qxb6604778a
