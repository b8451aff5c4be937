/-
  THE LAW OF SKIP: what stands while it runs.
-/
import Derived.Test.Qxb6605259aSp
import Derived.Deep.AppendLies
namespace Go.Proofs.Qxb6605259a
open Go.RowKit Go.Maps

/-- what stands of the five clones: each is of no element or lies in a block below H; below the old heap nothing has turned. -/
def Env (w wr : World) (H : Nat) (a0 a1 a2 a3 a4 : Option Addr) (n0 n1 n2 n3 n4 g0 g1 g2 g3 g4 : Nat) (s0 : List ByteArray) (z1 : List Int) (s2 : List ByteArray) (z3 : List Int) (s4 : List ByteArray) : Prop :=
  (StrS wr a0 n0 g0 0 s0 ∧ (n0 = 0 ∨ g0 < H)) ∧ (IntS wr a1 n1 g1 0 z1 ∧ (n1 = 0 ∨ g1 < H)) ∧ (StrS wr a2 n2 g2 0 s2 ∧ (n2 = 0 ∨ g2 < H)) ∧ (IntS wr a3 n3 g3 0 z3 ∧ (n3 = 0 ∨ g3 < H)) ∧ (StrS wr a4 n4 g4 0 s4 ∧ (n4 = 0 ∨ g4 < H)) ∧ Below w.heap.size w wr ∧ H ≤ wr.heap.size ∧ w.heap.size ≤ H

theorem Env.grown {w wr wr' : World} {H : Nat} {a0 a1 a2 a3 a4 : Option Addr} {n0 n1 n2 n3 n4 g0 g1 g2 g3 g4 : Nat} {s0 : List ByteArray} {z1 : List Int} {s2 : List ByteArray} {z3 : List Int} {s4 : List ByteArray} {row : Option Nat}
    (h : Env w wr H a0 a1 a2 a3 a4 n0 n1 n2 n3 n4 g0 g1 g2 g3 g4 s0 z1 s2 z3 s4) (hg : wr.grownBy wr' row) (hr : ∀ k, row = some k → H ≤ k) : Env w wr' H a0 a1 a2 a3 a4 n0 n1 n2 n3 n4 g0 g1 g2 g3 g4 s0 z1 s2 z3 s4 := by
  obtain ⟨⟨h0, e0⟩, ⟨h1, e1⟩, ⟨h2, e2⟩, ⟨h3, e3⟩, ⟨h4, e4⟩, hB, hH, hw⟩ := h
  have key : ∀ (n g : Nat), (n = 0 ∨ g < H) → n = 0 ∨ wr'.heap[g]? = wr.heap[g]? := fun n g e => by
    rcases e with e | e
    · exact .inl e
    · exact .inr (hg.block g (by omega) (fun q => by have := hr g q.symm; omega))
  exact ⟨⟨h0.block (key _ _ e0), e0⟩, ⟨h1.block (key _ _ e1), e1⟩, ⟨h2.block (key _ _ e2), e2⟩, ⟨h3.block (key _ _ e3), e3⟩, ⟨h4.block (key _ _ e4), e4⟩, hB.grown hg (by omega) (fun k hk => by have := hr k hk; omega), Nat.le_trans hH hg.size, hw⟩

theorem StrS.below {w w' : World} {a : Option Addr} {n g o B : Nat} {ss : List ByteArray} (h : StrS w a n g o ss) (hB : Below B w w') (hg : n = 0 ∨ g < B) : StrS w' a n g o ss := h.block (hg.imp id (fun e => hB.block g e))
theorem IntS.below {w w' : World} {a : Option Addr} {n g o B : Nat} {zs : List Int} (h : IntS w a n g o zs) (hB : Below B w w') (hg : n = 0 ∨ g < B) : IntS w' a n g o zs := h.block (hg.imp id (fun e => hB.block g e))


/-- what stands from the third loop on: the clones, the map and its model, the base. -/
def Still (w wr : World) (H : Nat) (a0 a1 a2 a3 a4 : Option Addr) (n0 n1 n2 n3 n4 g0 g1 g2 g3 g4 : Nat) (s0 : List ByteArray) (z1 : List Int) (s2 : List ByteArray) (z3 : List Int) (s4 : List ByteArray) (bt bm bb kt kb tz zb : Nat) (T B : List UInt8 → Int) (TH BH : List UInt8 → Bool) : Prop :=
  Env w wr H a0 a1 a2 a3 a4 n0 n1 n2 n3 n4 g0 g1 g2 g3 g4 s0 z1 s2 z3 s4 ∧ MapZ wr bt kt T TH tz ∧ MapZ wr bm kt T TH tz ∧ MapZ wr bb kb B BH zb
theorem Still.grown {w wr wr' : World} {H : Nat} {a0 a1 a2 a3 a4 : Option Addr} {n0 n1 n2 n3 n4 g0 g1 g2 g3 g4 : Nat} {s0 : List ByteArray} {z1 : List Int} {s2 : List ByteArray} {z3 : List Int} {s4 : List ByteArray} {bt bm bb kt kb tz zb : Nat} {T B : List UInt8 → Int} {TH BH : List UInt8 → Bool} {row : Option Nat}
    (h : Still w wr H a0 a1 a2 a3 a4 n0 n1 n2 n3 n4 g0 g1 g2 g3 g4 s0 z1 s2 z3 s4 bt bm bb kt kb tz zb T B TH BH) (hg : wr.grownBy wr' row) (hr : ∀ k, row = some k → H ≤ k ∧ k ≠ bt ∧ k ≠ bm ∧ k ≠ bb) :
    Still w wr' H a0 a1 a2 a3 a4 n0 n1 n2 n3 n4 g0 g1 g2 g3 g4 s0 z1 s2 z3 s4 bt bm bb kt kb tz zb T B TH BH :=
  ⟨h.1.grown hg (fun k e => (hr k e).1), h.2.1.kept hg (fun e => (hr _ e.symm).2.1 rfl), h.2.2.1.kept hg (fun e => (hr _ e.symm).2.2.1 rfl), h.2.2.2.kept hg (fun e => (hr _ e.symm).2.2.2 rfl)⟩

/-- the slice at block g holds the list A, in a row of the call's own. -/
def OwnS (w : World) (base g cap : Nat) (A : List ByteArray) : Prop := w.ownsRow base 9 1 (.slice (some ⟨g, 0, none⟩) A.length cap) A.length (A.map Value.string)
theorem OwnS.facts {w : World} {base g cap : Nat} {A : List ByteArray} (h : OwnS w base g cap A) : base ≤ g ∧ g < w.heap.size := by
  rcases h.2 with ⟨e, _⟩ | ⟨g', cap', cur, hv, hb, hh, _⟩
  · cases e
  · cases hv
    refine ⟨hb, ?_⟩
    by_cases q : g < w.heap.size
    · exact q
    · rw [Array.getElem?_eq_none (by omega)] at hh; cases hh
theorem OwnS.kept {w w' : World} {base g cap : Nat} {A : List ByteArray} {row : Option Nat} (h : OwnS w base g cap A) (hg : w.grownBy w' row) (hne : row ≠ some g) : OwnS w' base g cap A := by
  have hl := h.facts.2
  refine ⟨h.1, ?_⟩
  rcases h.2 with e | ⟨g', cap', cur, hv, hb, hh, hrest⟩
  · exact .inl e
  · refine .inr ⟨g', cap', cur, hv, hb, ?_, hrest⟩
    cases hv
    rw [hg.block g hl (fun e => hne e.symm)]; exact hh
theorem OwnS.strs {w : World} {base g cap : Nat} {A : List ByteArray} (h : OwnS w base g cap A) (hs : ∀ x, x ∈ A → x.size ≤ maxLen) : StrS w (some ⟨g, 0, none⟩) A.length g 0 A := by
  refine ⟨rfl, .inr rfl, fun k hk => ?_, fun k hk => ?_⟩
  · rw [Nat.zero_add, World.ownsRow.cellAt h k (by omega), List.getElem?_map, List.getElem?_eq_getElem hk, List.getD_eq_getElem?_getD, List.getElem?_eq_getElem hk]; rfl
  · rw [List.getD_eq_getElem?_getD, List.getElem?_eq_getElem hk]; exact hs _ (List.getElem_mem hk)
end Go.Proofs.Qxb6605259a
