/-
  THE LAW OF SKIP: the states of the first two loops.
-/
import Derived.Test.Qxb6605259aSe
namespace Go.Proofs.Qxb6605259a
open Go.RowKit Go.Maps

def L2 (w wr : World) (H : Nat) (b0 b1 b2 b3 b4 : Option Addr) (n0 n1 n2 n3 n4 G0 G1 G2 G3 G4 : Nat) (s0 : List ByteArray) (z1 : List Int) (s2 : List ByteArray) (z3 : List Int) (s4 : List ByteArray) (bt bm kt tz : Nat) (T : List UInt8 → Int) (TH : List UInt8 → Bool) (bs bb i : Nat) : Prop :=
  Env w wr H b0 b1 b2 b3 b4 n0 n1 n2 n3 n4 G0 G1 G2 G3 G4 s0 z1 s2 z3 s4 ∧ MapZ wr bt kt T TH tz ∧ MapZ wr bm kt T TH tz ∧ MapZ wr bs i (foldV s2 z3 i) (foldH s2 i) (foldZ s2 i) ∧ MapZ wr bb i (foldV s2 z3 i) (foldH s2 i) (foldZ s2 i)
def L1 (w wr : World) (H : Nat) (b0 b1 b2 b3 b4 : Option Addr) (n0 n1 n2 n3 n4 G0 G1 G2 G3 G4 : Nat) (s0 : List ByteArray) (z1 : List Int) (s2 : List ByteArray) (z3 : List Int) (s4 : List ByteArray) (bt bm i : Nat) : Prop :=
  Env w wr H b0 b1 b2 b3 b4 n0 n1 n2 n3 n4 G0 G1 G2 G3 G4 s0 z1 s2 z3 s4 ∧ MapZ wr bt i (foldV s0 z1 i) (foldH s0 i) (foldZ s0 i) ∧ MapZ wr bm i (foldV s0 z1 i) (foldH s0 i) (foldZ s0 i)
theorem grown_of_drew {w w' : World} {row : Option Nat} (hg : w.drew.grownBy w' row) : w.grownBy w' row := ⟨hg.os, hg.tape, hg.output, hg.size, hg.block⟩
theorem L2.step {w wr : World} {H : Nat} {b0 b1 b2 b3 b4 : Option Addr} {n0 n1 n2 n3 n4 G0 G1 G2 G3 G4 : Nat} {s0 : List ByteArray} {z1 : List Int} {s2 : List ByteArray} {z3 : List Int} {s4 : List ByteArray} {bt bm kt tz : Nat} {T : List UInt8 → Int} {TH : List UInt8 → Bool} {bs bb i : Nat} (h : L2 w wr H b0 b1 b2 b3 b4 n0 n1 n2 n3 n4 G0 G1 G2 G3 G4 s0 z1 s2 z3 s4 bt bm kt tz T TH bs bb i) (hi : i < n2) (hj : i < n3) (hm : n2 ≤ 65536)
    (a1 : H ≤ bs) (a2 : H ≤ bb) (a3 : bs ≠ bt) (a4 : bs ≠ bm) (a5 : bs ≠ bb) (a6 : bb ≠ bt) (a7 : bb ≠ bm) :
    ∃ W1 W2, (Instr.mapUpdate 34 (.map (some bs)) (.string (s2.getD i ByteArray.empty)) (.int .i64 (z3.getD i 0))).run Try.prog wr.drew = .ok () W1 ∧ (Instr.mapUpdate 34 (.map (some bb)) (.string (s2.getD i ByteArray.empty)) (.int .i64 (z3.getD i 0))).run Try.prog W1.drew = .ok () W2 ∧
      (W1.cell? ⟨G2, i, none⟩ = some (.string (s2.getD i ByteArray.empty)) ∧ W1.cell? ⟨G3, i, none⟩ = some (.int .i64 (z3.getD i 0))) ∧
      (W2.cell? ⟨G2, i, none⟩ = some (.string (s2.getD i ByteArray.empty)) ∧ W2.cell? ⟨G3, i, none⟩ = some (.int .i64 (z3.getD i 0))) ∧ L2 w W2 H b0 b1 b2 b3 b4 n0 n1 n2 n3 n4 G0 G1 G2 G3 G4 s0 z1 s2 z3 s4 bt bm kt tz T TH bs bb (i + 1) := by
  obtain ⟨he, ht, hmm, hs, hb⟩ := h
  have hx := he.2.2.1.1.2.2.2 i hi
  have hv := he.2.2.2.1.1.2.2.2 i hj
  obtain ⟨W1, r1, hs1, hg1⟩ := hs.drew.put (by unfold maxLen; omega) hx hv
  have hg1 := grown_of_drew hg1
  have he1 := he.grown hg1 (fun k e => by cases e; exact a1)
  obtain ⟨W2, r2, hb2, hg2⟩ := (hb.kept hg1 (fun e => a5 (by cases e; rfl))).drew.put (by unfold maxLen; omega) hx hv
  have hg2 := grown_of_drew hg2
  have he2 := he1.grown hg2 (fun k e => by cases e; exact a2)
  refine ⟨W1, W2, r1, r2, ?_, ?_, he2, (ht.kept hg1 (fun e => a3 (by cases e; rfl))).kept hg2 (fun e => a6 (by cases e; rfl)), (hmm.kept hg1 (fun e => a4 (by cases e; rfl))).kept hg2 (fun e => a7 (by cases e; rfl)), hs1.kept hg2 (fun e => a5 (by cases e; rfl)), hb2⟩
  · have c1 := he1.2.2.1.1.2.2.1 i hi
    have c2 := he1.2.2.2.1.1.2.2.1 i hj
    rw [Nat.zero_add] at c1 c2
    exact ⟨c1, c2⟩
  · have c1 := he2.2.2.1.1.2.2.1 i hi
    have c2 := he2.2.2.2.1.1.2.2.1 i hj
    rw [Nat.zero_add] at c1 c2
    exact ⟨c1, c2⟩
theorem L1.step {w wr : World} {H : Nat} {b0 b1 b2 b3 b4 : Option Addr} {n0 n1 n2 n3 n4 G0 G1 G2 G3 G4 : Nat} {s0 : List ByteArray} {z1 : List Int} {s2 : List ByteArray} {z3 : List Int} {s4 : List ByteArray} {bt bm i : Nat} (h : L1 w wr H b0 b1 b2 b3 b4 n0 n1 n2 n3 n4 G0 G1 G2 G3 G4 s0 z1 s2 z3 s4 bt bm i) (hi : i < n0) (hj : i < n1) (hm : n0 ≤ 65536)
    (a1 : H ≤ bt) (a2 : H ≤ bm) (a5 : bt ≠ bm) :
    ∃ W1 W2, (Instr.mapUpdate 34 (.map (some bt)) (.string (s0.getD i ByteArray.empty)) (.int .i64 (z1.getD i 0))).run Try.prog wr.drew = .ok () W1 ∧ (Instr.mapUpdate 34 (.map (some bm)) (.string (s0.getD i ByteArray.empty)) (.int .i64 (z1.getD i 0))).run Try.prog W1.drew = .ok () W2 ∧
      (W1.cell? ⟨G0, i, none⟩ = some (.string (s0.getD i ByteArray.empty)) ∧ W1.cell? ⟨G1, i, none⟩ = some (.int .i64 (z1.getD i 0))) ∧
      (W2.cell? ⟨G0, i, none⟩ = some (.string (s0.getD i ByteArray.empty)) ∧ W2.cell? ⟨G1, i, none⟩ = some (.int .i64 (z1.getD i 0))) ∧ L1 w W2 H b0 b1 b2 b3 b4 n0 n1 n2 n3 n4 G0 G1 G2 G3 G4 s0 z1 s2 z3 s4 bt bm (i + 1) := by
  obtain ⟨he, hs, hb⟩ := h
  have hx := he.1.1.2.2.2 i hi
  have hv := he.2.1.1.2.2.2 i hj
  obtain ⟨W1, r1, hs1, hg1⟩ := hs.drew.put (by unfold maxLen; omega) hx hv
  have hg1 := grown_of_drew hg1
  have he1 := he.grown hg1 (fun k e => by cases e; exact a1)
  obtain ⟨W2, r2, hb2, hg2⟩ := (hb.kept hg1 (fun e => a5 (by cases e; rfl))).drew.put (by unfold maxLen; omega) hx hv
  have hg2 := grown_of_drew hg2
  have he2 := he1.grown hg2 (fun k e => by cases e; exact a2)
  refine ⟨W1, W2, r1, r2, ?_, ?_, he2, hs1.kept hg2 (fun e => a5 (by cases e; rfl)), hb2⟩
  · have c1 := he1.1.1.2.2.1 i hi
    have c2 := he1.2.1.1.2.2.1 i hj
    rw [Nat.zero_add] at c1 c2
    exact ⟨c1, c2⟩
  · have c1 := he2.1.1.2.2.1 i hi
    have c2 := he2.2.1.1.2.2.1 i hj
    rw [Nat.zero_add] at c1 c2
    exact ⟨c1, c2⟩
end Go.Proofs.Qxb6605259a
