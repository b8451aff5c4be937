/-
  THE LAW OF SKIP: the fourth loop's state.
-/
import Derived.Test.Qxb6605259aSe
namespace Go.Proofs.Qxb6605259a
open Go.RowKit Go.Maps

/-- the maps' blocks apart. -/
def Apart (H bt bm bb bs bz : Nat) : Prop := H ≤ bs ∧ bs ≠ bt ∧ bs ≠ bm ∧ bs ≠ bb ∧ H ≤ bz ∧ bt < bz ∧ bm < bz ∧ bb < bz ∧ bs < bz
/-- the state of the fourth loop when i ids have been asked. -/
def L4 (w wr : World) (H : Nat) (b0 b1 b2 b3 b4 : Option Addr) (n0 n1 n2 n3 n4 G0 G1 G2 G3 G4 : Nat) (s0 : List ByteArray) (z1 : List Int) (s2 : List ByteArray) (z3 : List Int) (s4 : List ByteArray) (bt bm bb kt kb tz zb : Nat) (T B : List UInt8 → Int) (TH BH : List UInt8 → Bool) (bs bz i g cap : Nat) : Prop :=
  Still w wr H b0 b1 b2 b3 b4 n0 n1 n2 n3 n4 G0 G1 G2 G3 G4 s0 z1 s2 z3 s4 bt bm bb kt kb tz zb T B TH BH ∧ MapZ wr bs (kb + i) (skV T B s4 i) (skH T B BH s4 i) (zb + add T B BH (dst s4 i)) ∧ (∃ zh zz, MapZ wr bz i (fun x => (cnt s4 i x : Int)) zh zz) ∧ OwnS wr (bz + 1) g cap (dst s4 i)
theorem cnt_put (ss : List ByteArray) (i : Nat) (x : List UInt8) : updV (fun x => (cnt ss i x : Int)) (key ss i) ((cnt ss i (key ss i) : Int) + 1) x = (cnt ss (i + 1) x : Int) := by
  unfold updV
  show _ = ((cnt ss i x + if x = key ss i then 1 else 0 : Nat) : Int)
  by_cases e : x = key ss i
  · rw [if_pos e, if_pos e, e]; omega
  · rw [if_neg e, if_neg e]; rfl
theorem L4.no {w W W1 W2 : World} {H : Nat} {b0 b1 b2 b3 b4 : Option Addr} {n0 n1 n2 n3 n4 G0 G1 G2 G3 G4 : Nat} {s0 : List ByteArray} {z1 : List Int} {s2 : List ByteArray} {z3 : List Int} {s4 : List ByteArray} {bt bm bb kt kb tz zb : Nat} {T B : List UInt8 → Int} {TH BH : List UInt8 → Bool} {bs bz i g cap zz' : Nat} {zh' : List UInt8 → Bool} (ap : Apart H bt bm bb bs bz)
    (hst : Still w W H b0 b1 b2 b3 b4 n0 n1 n2 n3 n4 G0 G1 G2 G3 G4 s0 z1 s2 z3 s4 bt bm bb kt kb tz zb T B TH BH) (hms : MapZ W bs (kb + i) (skV T B s4 i) (skH T B BH s4 i) (zb + add T B BH (dst s4 i))) (hown : OwnS W (bz + 1) g cap (dst s4 (i + 1)))
    (hg1 : W.grownBy W1 none) (hg2 : W1.grownBy W2 (some bz)) (hmz : MapZ W2 bz (i + 1) (updV (fun x => (cnt s4 i x : Int)) (key s4 i) ((cnt s4 i (key s4 i) : Int) + 1)) zh' zz')
    (hno : room T B (key s4 i) ≤ cnt s4 i (key s4 i)) : L4 w W2 H b0 b1 b2 b3 b4 n0 n1 n2 n3 n4 G0 G1 G2 G3 G4 s0 z1 s2 z3 s4 bt bm bb kt kb tz zb T B TH BH bs bz (i + 1) g cap := by
  obtain ⟨a1, a2, a3, a4, a5, a6, a7, a8, a9⟩ := ap
  obtain ⟨e1, e2, _, e4⟩ := sk_no (BH := BH) hno
  refine ⟨(hst.grown hg1 (fun k e => by cases e)).grown hg2 (fun k e => by cases e; exact ⟨a5, by omega, by omega, by omega⟩), ?_, ⟨_, _, hmz.congr (cnt_put s4 i) (fun _ => rfl)⟩, (hown.kept hg1 (by simp)).kept hg2 (fun e => ?_)⟩
  · rw [e4]
    exact ((((hms.kept hg1 (by simp)).kept hg2 (fun e => by cases e; omega)).congr e1 e2).mono (by omega))
  · have := hown.facts.1
    cases e; omega
theorem L4.yes {w W W1 W2 : World} {H : Nat} {b0 b1 b2 b3 b4 : Option Addr} {n0 n1 n2 n3 n4 G0 G1 G2 G3 G4 : Nat} {s0 : List ByteArray} {z1 : List Int} {s2 : List ByteArray} {z3 : List Int} {s4 : List ByteArray} {bt bm bb kt kb tz zb : Nat} {T B : List UInt8 → Int} {TH BH : List UInt8 → Bool} {bs bz i g cap zz' : Nat} {zh' : List UInt8 → Bool} (ap : Apart H bt bm bb bs bz)
    (hst : Still w W H b0 b1 b2 b3 b4 n0 n1 n2 n3 n4 G0 G1 G2 G3 G4 s0 z1 s2 z3 s4 bt bm bb kt kb tz zb T B TH BH) (hms : MapZ W1 bs (kb + i + 1) (updV (skV T B s4 i) (key s4 i) (skV T B s4 i (key s4 i) + 1)) (updH (skH T B BH s4 i) (key s4 i)) (updZ (skH T B BH s4 i) (key s4 i) (zb + add T B BH (dst s4 i)))) (hown : OwnS W (bz + 1) g cap (dst s4 (i + 1)))
    (hg1 : W.grownBy W1 (some bs)) (hg2 : W1.grownBy W2 (some bz)) (hmz : MapZ W2 bz (i + 1) (updV (fun x => (cnt s4 i x : Int)) (key s4 i) ((cnt s4 i (key s4 i) : Int) + 1)) zh' zz')
    (hyes : cnt s4 i (key s4 i) < room T B (key s4 i)) : L4 w W2 H b0 b1 b2 b3 b4 n0 n1 n2 n3 n4 G0 G1 G2 G3 G4 s0 z1 s2 z3 s4 bt bm bb kt kb tz zb T B TH BH bs bz (i + 1) g cap := by
  obtain ⟨a1, a2, a3, a4, a5, a6, a7, a8, a9⟩ := ap
  obtain ⟨e1, e2, _, e4⟩ := sk_yes (BH := BH) (zb := zb) hyes
  rw [e4] at hms
  have hgb := hown.facts.1
  refine ⟨(hst.grown hg1 (fun k e => by cases e; exact ⟨a1, a2, a3, a4⟩)).grown hg2 (fun k e => by cases e; exact ⟨a5, by omega, by omega, by omega⟩), ?_, ⟨_, _, hmz.congr (cnt_put s4 i) (fun _ => rfl)⟩, (hown.kept hg1 (fun e => ?_)).kept hg2 (fun e => ?_)⟩
  · exact (hms.kept hg2 (fun e => by cases e; omega)).congr e1 e2
  · cases e; omega
  · cases e; omega
/-- what an append of one string leaves. -/
theorem app_strs {W w4 : World} {o : Obj} {base g cap g4 cap4 : Nat} {A : List ByteArray} {x : ByteArray}
    (hown4 : w4.ownsRow base 9 1 (.slice (some ⟨g4, 0, none⟩) (A.length + 1) cap4) (A.length + 1) (A.map Value.string ++ [.string x])) (hgr4 : (W.alloc o).grownBy w4 (Value.ownBlock (.slice (some ⟨g, 0, none⟩) A.length cap))) :
    OwnS w4 base g4 cap4 (A ++ [x]) ∧ W.grownBy w4 (some g) := by
  refine ⟨?_, ?_⟩
  · unfold OwnS
    rw [List.map_append, List.length_append]
    exact hown4
  · exact (World.grownBy_alloc W o (some g)).trans hgr4
theorem skV_no {T B : List UInt8 → Int} {ss : List ByteArray} {i : Nat} (h1 : B (key ss i) ≤ T (key ss i)) (h : ¬ (cnt ss i (key ss i) : Int) < T (key ss i) - B (key ss i)) : room T B (key ss i) ≤ cnt ss i (key ss i) ∧ skV T B ss i (key ss i) = T (key ss i) := by
  have : room T B (key ss i) ≤ cnt ss i (key ss i) := by unfold room; omega
  refine ⟨this, ?_⟩
  rw [(sk_no (BH := fun _ => false) this).2.2.1]; unfold room; omega
theorem skV_yes {T B : List UInt8 → Int} {ss : List ByteArray} {i : Nat} (h0 : 0 ≤ B (key ss i)) (h : (cnt ss i (key ss i) : Int) < T (key ss i) - B (key ss i)) :
    cnt ss i (key ss i) < room T B (key ss i) ∧ 0 ≤ skV T B ss i (key ss i) ∧ skV T B ss i (key ss i) < T (key ss i) := by
  have : cnt ss i (key ss i) < room T B (key ss i) := by unfold room; omega
  refine ⟨this, ?_⟩
  rw [(sk_yes (BH := fun _ => false) (zb := 0) this).2.2.1]
  constructor <;> omega
end Go.Proofs.Qxb6605259a
