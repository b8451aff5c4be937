/-
  No cell of these rows narrows 'for every input' (looked for: loops, veiled, ifaces, maps, wideKeys, modest, calm, conditions, laid).
  DERIVED. THE GIVEN ROWS OF THIS SEAT. 3 by the template 'for every input the law returns true; each argument reads behind the call as it read before'; 0 by the template 'total and deterministic' (their statements: Qxb6605259aTotals.lean).
  GIVEN WITH THE SEED: the statements are not yours to turn. If you find one false, say at which input.
  Laid BY PROGRAM, IN A SANDBOX (cutbox-rows.mjs): the forced cells as the released guide's own fill.sh prints them over the translation ed9a53116d232865… (all of the seat's roots in one cut). By AI agents, Wed Nov 11 2026. No macro, syntax, notation, axiom, sorry.
-/
import Derived.Test.Qxb6605259aChecked
import GoSem.Claim
import GoSem.ClaimJoined
import GoSem.ClaimMapViews
import Derived.JoinedTies
import Derived.KernelRfl
namespace Go.Proofs.Qxb6605259a
/- THE CELL 'sum', in the pinned program and in every row, IS THE sha256 OF THE DUMP (.gsa) THAT Qxb6605259aProg.lean LOADS. Nothing in Lean hashes anything: it is a label: what it is worth is what the hold of that sum in a sandbox is worth. -/
noncomputable def Try.pinned : Pinned := { name := "qxb6605259a", sum := "ed9a53116d23286516b7da853d6c9565480c8a378038678c669037e245a5ed8a", checked := Try.checked }
namespace Rows
def none {H : Type} : Left H := { results := [], args := [] }

/-- 'zzlaws_keeper_b1.FnBeforeIsBigEndianByteOrder': WHATEVER THE INPUT: true; the input reads as it did. -/
def fnBeforeIsBigEndianByteOrderSpec : ChangeSpec := { name := "fnBeforeIsBigEndianByteOrder", fn := fun _ => fun
  | [d1, d2, d3, d4] => { results := [.lit (.bool true)], args := [d1, d2, d3, d4] }
  | _ => none }
def fnBeforeIsBigEndianByteOrderRow : OpenClaim := { program := "qxb6605259a", sum := "ed9a53116d23286516b7da853d6c9565480c8a378038678c669037e245a5ed8a", func := "example.com/lienkeeper/lienkeeper/zzlaws_keeper_b1.FnBeforeIsBigEndianByteOrder", spec := "fnBeforeIsBigEndianByteOrder", apart := false }
def FnBeforeIsBigEndianByteOrderSaid : Prop := fnBeforeIsBigEndianByteOrderRow.holds Try.pinned (OpenSpec.ofChange fnBeforeIsBigEndianByteOrderSpec)

/-- ITS FALSE NEIGHBOUR: 'it returns false'. Refute it at one input. -/
def fnBeforeIsBigEndianByteOrderWrong : ChangeSpec := { name := "fnBeforeIsBigEndianByteOrder", fn := fun _ => fun
  | [d1, d2, d3, d4] => { results := [.lit (.bool false)], args := [d1, d2, d3, d4] }
  | _ => none }
def FnBeforeIsBigEndianByteOrderWrongFalsely : Prop := fnBeforeIsBigEndianByteOrderRow.holds Try.pinned (OpenSpec.ofChange fnBeforeIsBigEndianByteOrderWrong)

/-- 'zzlaws_keeper_b1.FnBeforeIsStrictTotalOrder': WHATEVER THE INPUT: true; the input reads as it did. -/
def fnBeforeIsStrictTotalOrderSpec : ChangeSpec := { name := "fnBeforeIsStrictTotalOrder", fn := fun _ => fun
  | [d1, d2, d3, d4, d5, d6] => { results := [.lit (.bool true)], args := [d1, d2, d3, d4, d5, d6] }
  | _ => none }
def fnBeforeIsStrictTotalOrderRow : OpenClaim := { program := "qxb6605259a", sum := "ed9a53116d23286516b7da853d6c9565480c8a378038678c669037e245a5ed8a", func := "example.com/lienkeeper/lienkeeper/zzlaws_keeper_b1.FnBeforeIsStrictTotalOrder", spec := "fnBeforeIsStrictTotalOrder", apart := false }
def FnBeforeIsStrictTotalOrderSaid : Prop := fnBeforeIsStrictTotalOrderRow.holds Try.pinned (OpenSpec.ofChange fnBeforeIsStrictTotalOrderSpec)

/-- ITS FALSE NEIGHBOUR: 'it returns false'. Refute it at one input. -/
def fnBeforeIsStrictTotalOrderWrong : ChangeSpec := { name := "fnBeforeIsStrictTotalOrder", fn := fun _ => fun
  | [d1, d2, d3, d4, d5, d6] => { results := [.lit (.bool false)], args := [d1, d2, d3, d4, d5, d6] }
  | _ => none }
def FnBeforeIsStrictTotalOrderWrongFalsely : Prop := fnBeforeIsStrictTotalOrderRow.holds Try.pinned (OpenSpec.ofChange fnBeforeIsStrictTotalOrderWrong)

/-- 'zzlaws_keeper_b1.FnSkipPassesOverFirstTotalOccurrences': WHATEVER THE INPUT: true; the input reads as it did. -/
def fnSkipPassesOverFirstTotalOccurrencesSpec : ChangeSpec := { name := "fnSkipPassesOverFirstTotalOccurrences", fn := fun _ => fun
  | [d1, d2, d3, d4, d5] => { results := [.lit (.bool true)], args := [d1, d2, d3, d4, d5] }
  | _ => none }
def fnSkipPassesOverFirstTotalOccurrencesRow : OpenClaim := { program := "qxb6605259a", sum := "ed9a53116d23286516b7da853d6c9565480c8a378038678c669037e245a5ed8a", func := "example.com/lienkeeper/lienkeeper/zzlaws_keeper_b1.FnSkipPassesOverFirstTotalOccurrences", spec := "fnSkipPassesOverFirstTotalOccurrences", apart := false }
def FnSkipPassesOverFirstTotalOccurrencesSaid : Prop := fnSkipPassesOverFirstTotalOccurrencesRow.holds Try.pinned (OpenSpec.ofChange fnSkipPassesOverFirstTotalOccurrencesSpec)

/-- ITS FALSE NEIGHBOUR: 'it returns false'. Refute it at one input. -/
def fnSkipPassesOverFirstTotalOccurrencesWrong : ChangeSpec := { name := "fnSkipPassesOverFirstTotalOccurrences", fn := fun _ => fun
  | [d1, d2, d3, d4, d5] => { results := [.lit (.bool false)], args := [d1, d2, d3, d4, d5] }
  | _ => none }
def FnSkipPassesOverFirstTotalOccurrencesWrongFalsely : Prop := fnSkipPassesOverFirstTotalOccurrencesRow.holds Try.pinned (OpenSpec.ofChange fnSkipPassesOverFirstTotalOccurrencesWrong)

end Rows
end Go.Proofs.Qxb6605259a
