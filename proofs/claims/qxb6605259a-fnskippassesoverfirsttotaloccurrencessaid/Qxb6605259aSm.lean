/-
  SLICES OF STRINGS AND OF INTS, nil OR NOT, IN ONE WORD; MAPS FROM STRINGS TO INTS AS PLAIN FUNCTIONS.
-/
import Derived.Test.Qxb6605259aRows
import Derived.WalkKit
import Derived.WalkSpells
import Derived.WalkLawsBesides
import Derived.Deep.QuietTactic
import Derived.BigQuiet
import Derived.Maps.OwnSet
import Derived.Maps.OwnOps
import Derived.OpenShut
namespace Go.Proofs.Qxb6605259a
open Go.RowKit Go.Maps Go.WideMaps

theorem ret_bool' {a b : Bool} (h : a = b) : Ending.returned (.bool a) = .returned (.bool b) := by rw [h]
theorem val_int' {k : IntKind} {a b : Int} (h : a = b) : Value.int k a = .int k b := by rw [h]

/-- a slice of strings: of no element, or it begins at ⟨g, o⟩; element k lies at o + k. -/
def StrS (w : World) (a : Option Addr) (n g o : Nat) (ss : List ByteArray) : Prop :=
  ss.length = n ∧ (n = 0 ∨ a = some ⟨g, o, none⟩) ∧ (∀ k, k < n → w.cell? ⟨g, o + k, none⟩ = some (.string (ss.getD k ByteArray.empty))) ∧ ∀ k, k < n → (ss.getD k ByteArray.empty).size ≤ maxLen
def IntS (w : World) (a : Option Addr) (n g o : Nat) (zs : List Int) : Prop :=
  zs.length = n ∧ (n = 0 ∨ a = some ⟨g, o, none⟩) ∧ (∀ k, k < n → w.cell? ⟨g, o + k, none⟩ = some (.int .i64 (zs.getD k 0))) ∧ ∀ k, k < n → (Lit.int .i64 (zs.getD k 0)).wf = true

theorem StrS.block {w w' : World} {a : Option Addr} {n g o : Nat} {ss : List ByteArray} (h : StrS w a n g o ss) (hb : n = 0 ∨ w'.heap[g]? = w.heap[g]?) : StrS w' a n g o ss := by
  refine ⟨h.1, h.2.1, fun k hk => ?_, h.2.2.2⟩
  rcases hb with e | e
  · omega
  · exact (World.cell?_of_block (w := w) (a := ⟨g, o + k, none⟩) e).trans (h.2.2.1 k hk)
theorem IntS.block {w w' : World} {a : Option Addr} {n g o : Nat} {zs : List Int} (h : IntS w a n g o zs) (hb : n = 0 ∨ w'.heap[g]? = w.heap[g]?) : IntS w' a n g o zs := by
  refine ⟨h.1, h.2.1, fun k hk => ?_, h.2.2.2⟩
  rcases hb with e | e
  · omega
  · exact (World.cell?_of_block (w := w) (a := ⟨g, o + k, none⟩) e).trans (h.2.2.1 k hk)

/-- where element k lies, whatever the slice's address is written as. -/
theorem index28 {a : Option Addr} {n g o : Nat} (c : Nat) (h : n = 0 ∨ a = some ⟨g, o, none⟩) :
    ∀ (k : Nat) (w' : World), k < n → (Instr.indexAt 28 (.slice a n c) (.int .i64 k)).run Try.prog w' = .ok (.pointer (some ⟨g, o + k, none⟩)) w' := by
  intro k w' hk
  rcases h with e | e
  · omega
  · subst e
    have hi : (0 : Int) ≤ (k : Int) ∧ (k : Int) < (n : Int) := by omega
    simp [Instr.indexAt, run_underlying Try.underlying28, asIntOf, hi, go_sem, Addr.add]
    rw [if_pos hk]
    by_cases h0 : k = 0
    · subst h0; simp
    · simp [h0]
theorem index29 {a : Option Addr} {n g o : Nat} (c : Nat) (h : n = 0 ∨ a = some ⟨g, o, none⟩) :
    ∀ (k : Nat) (w' : World), k < n → (Instr.indexAt 29 (.slice a n c) (.int .i64 k)).run Try.prog w' = .ok (.pointer (some ⟨g, o + k, none⟩)) w' := by
  intro k w' hk
  rcases h with e | e
  · omega
  · subst e
    have hi : (0 : Int) ≤ (k : Int) ∧ (k : Int) < (n : Int) := by omega
    simp [Instr.indexAt, run_underlying Try.underlying29, asIntOf, hi, go_sem, Addr.add]
    rw [if_pos hk]
    by_cases h0 : k = 0
    · subst h0; simp
    · simp [h0]

/-! ### maps from strings to ints, as plain functions -/
theorem law9 : Keyed Try.prog 9 := string_keyed Try.underlying9
theorem zero3 (w : World) : (zeroValue 3).run Try.prog w = .ok (.int .i64 0) w := by kernel_rfl
def valD (D : DataW Unit) (k : List UInt8) : Int := match D.atKey (.string k) (.lit (.int .i64 0)) with | .lit (.int _ n) => n | _ => 0
def hasD (D : DataW Unit) (k : List UInt8) : Bool := Maps.has D (.string k)
/-- block b is a map of at most n entries: V its values (0 where none), Hs its keys, sz how many. -/
def MapZ (w : World) (b n : Nat) (V : List UInt8 → Int) (Hs : List UInt8 → Bool) (sz : Nat) : Prop :=
  ∃ D : DataW Unit, w.ownsMap Try.prog 9 (plainElem Try.prog 3) b n D ∧ (∀ k, valD D k = V k) ∧ (∀ k, hasD D k = Hs k) ∧ Maps.size D = sz

theorem MapZ.made (w : World) : MapZ (w.alloc (.map #[] 0)) w.heap.size 0 (fun _ => 0) (fun _ => false) 0 :=
  ⟨.map [], World.ownsMap_made w Try.prog 9 _, fun _ => rfl, fun _ => rfl, rfl⟩
theorem MapZ.lt {w : World} {b n sz : Nat} {V : List UInt8 → Int} {Hs : List UInt8 → Bool} (h : MapZ w b n V Hs sz) : b < w.heap.size := by
  obtain ⟨D, h1, _⟩ := h; exact h1.lt
theorem MapZ.kept {w w' : World} {b n sz : Nat} {V : List UInt8 → Int} {Hs : List UInt8 → Bool} {row : Option Nat} (h : MapZ w b n V Hs sz) (hg : w.grownBy w' row) (hne : some b ≠ row) : MapZ w' b n V Hs sz := by
  obtain ⟨D, h1, h2⟩ := h; exact ⟨D, h1.kept hg hne, h2⟩
theorem MapZ.alloc {w : World} {b n sz : Nat} {V : List UInt8 → Int} {Hs : List UInt8 → Bool} (h : MapZ w b n V Hs sz) (o : Obj) : MapZ (w.alloc o) b n V Hs sz := h.kept (World.grownBy_alloc w o none) (by simp)
theorem MapZ.mono {w : World} {b n m sz : Nat} {V : List UInt8 → Int} {Hs : List UInt8 → Bool} (h : MapZ w b n V Hs sz) (hm : n ≤ m) : MapZ w b m V Hs sz := by
  obtain ⟨D, h1, h2⟩ := h; exact ⟨D, h1.mono hm, h2⟩
theorem MapZ.drewN {w : World} {b n sz : Nat} {V : List UInt8 → Int} {Hs : List UInt8 → Bool} (h : MapZ w b n V Hs sz) (m : Nat) : MapZ (w.drewN m) b n V Hs sz := h
theorem MapZ.drew {w : World} {b n sz : Nat} {V : List UInt8 → Int} {Hs : List UInt8 → Bool} (h : MapZ w b n V Hs sz) : MapZ w.drew b n V Hs sz := h
theorem MapZ.congr {w : World} {b n sz : Nat} {V V' : List UInt8 → Int} {Hs Hs' : List UInt8 → Bool} (h : MapZ w b n V Hs sz) (e1 : ∀ k, V k = V' k) (e2 : ∀ k, Hs k = Hs' k) : MapZ w b n V' Hs' sz := by
  obtain ⟨D, h1, h2, h3, h4⟩ := h; exact ⟨D, h1, fun k => (h2 k).trans (e1 k), fun k => (h3 k).trans (e2 k), h4⟩
theorem MapZ.size_le {w : World} {b n sz : Nat} {V : List UInt8 → Int} {Hs : List UInt8 → Bool} (h : MapZ w b n V Hs sz) : sz ≤ n := by
  obtain ⟨D, h1, _, _, h4⟩ := h; rw [← h4]; exact h1.size_le

theorem MapZ.look {w : World} {b n sz : Nat} {V : List UInt8 → Int} {Hs : List UInt8 → Bool} (h : MapZ w b n V Hs sz) {s : ByteArray} (hs : s.size ≤ maxLen) :
    (Instr.lookup 34 (.map (some b)) (.string s) false).run Try.prog w = .ok (.int .i64 (V s.data.toList)) w ∧ (Lit.int .i64 (V s.data.toList)).wf = true := by
  obtain ⟨D, h1, h2, _⟩ := h
  obtain ⟨c, hrun, hat, hwc⟩ := h1.lookup_int law9 Try.underlying34 Try.underlying3 (zero3 w) (keyOf_string_mk Try.underlying9 hs)
  have e : V s.data.toList = c := by rw [← h2]; unfold valD; rw [hat]
  rw [e]; exact ⟨hrun, hwc⟩
theorem MapZ.look_ok {w : World} {b n sz : Nat} {V : List UInt8 → Int} {Hs : List UInt8 → Bool} (h : MapZ w b n V Hs sz) {s : ByteArray} (hs : s.size ≤ maxLen) :
    (Instr.lookup 34 (.map (some b)) (.string s) true).run Try.prog w = .ok (.tuple #[.int .i64 (V s.data.toList), .bool (Hs s.data.toList)]) w := by
  obtain ⟨D, h1, h2, h3, _⟩ := h
  obtain ⟨v, ps, hrun, hv⟩ := h1.look_ok law9 Try.underlying34 (zero3 w) (plainElem_int Try.underlying3 (by decide)) (keyOf_string_mk Try.underlying9 hs)
  obtain ⟨c, rfl, hc, _⟩ := plainElem_int_inv Try.underlying3 hv
  simp only [Prod.mk.injEq] at hc
  have e : V s.data.toList = c := by rw [← h2]; unfold valD; rw [hc.1]
  rw [e, ← h3]; exact hrun
theorem MapZ.len {w : World} {b n sz : Nat} {V : List UInt8 → Int} {Hs : List UInt8 → Bool} (h : MapZ w b n V Hs sz) (ty : TypeId) :
    (Builtin.len_ #[34] ty #[.map (some b)]).run Try.prog w = .ok (.int .i64 sz) w := by
  obtain ⟨D, h1, _, _, h4⟩ := h
  rw [← h4]; exact h1.len Try.underlying34 ty
/-- a map's functions behind a store. -/
def updV (V : List UInt8 → Int) (k : List UInt8) (v : Int) (x : List UInt8) : Int := if x = k then v else V x
def updH (Hs : List UInt8 → Bool) (k : List UInt8) (x : List UInt8) : Bool := if x = k then true else Hs x
def updZ (Hs : List UInt8 → Bool) (k : List UInt8) (sz : Nat) : Nat := if Hs k then sz else sz + 1
theorem lit_str_ne {a b : List UInt8} (h : a ≠ b) : (Lit.string a) ≠ (Lit.string b) := fun e => h (by cases e; rfl)
theorem MapZ.put {w : World} {b n sz : Nat} {V : List UInt8 → Int} {Hs : List UInt8 → Bool} (h : MapZ w b n V Hs sz) (hn : n < maxLen) {s : ByteArray} (hs : s.size ≤ maxLen) {v : Int} (hv : (Lit.int .i64 v).wf = true) :
    ∃ w', (Instr.mapUpdate 34 (.map (some b)) (.string s) (.int .i64 v)).run Try.prog w = .ok () w' ∧
      MapZ w' b (n + 1) (updV V s.data.toList v) (updH Hs s.data.toList) (updZ Hs s.data.toList sz) ∧ w.grownBy w' (some b) := by
  obtain ⟨D, h1, h2, h3, h4⟩ := h
  obtain ⟨w', hrun, ho, hg⟩ := h1.update law9 Try.underlying34 hn (keyOf_string_mk Try.underlying9 hs) (plainElem_int (H := Unit) Try.underlying3 hv)
  refine ⟨w', hrun, ⟨_, ho, fun k => ?_, fun k => ?_, ?_⟩, hg⟩
  · show _ = if k = s.data.toList then v else V k
    by_cases e : k = s.data.toList
    · subst e; unfold valD; rw [atKey_put_same h1.isMap (by trivial), if_pos rfl]
    · rw [if_neg e, ← h2]; unfold valD; rw [atKey_put_other (lit_str_ne e)]
  · show _ = if k = s.data.toList then true else Hs k
    by_cases e : k = s.data.toList
    · subst e; unfold hasD; rw [has_put_same h1.isMap (by trivial), if_pos rfl]
    · rw [if_neg e, ← h3]; unfold hasD; rw [has_put_other (lit_str_ne e)]
  · unfold updZ; rw [size_put (h1.tidy law9), ← h3, h4]; rfl
end Go.Proofs.Qxb6605259a
