/-
  No cell of these rows narrows 'for every input' (looked for: loops, veiled, ifaces, maps, wideKeys, modest, calm, conditions, laid).
  DERIVED. THE GIVEN ROWS OF THIS SEAT. 4 by the template 'for every input the law returns true; each argument reads behind the call as it read before'; 0 by the template 'total and deterministic' (their statements: Qxb6604778aTotals.lean).
  GIVEN WITH THE SEED: the statements are not yours to turn. If you find one false, say at which input.
  Laid BY PROGRAM, IN A SANDBOX (cutbox-rows.mjs): the forced cells as the released guide's own fill.sh prints them over the translation 5baee1da6104dbf8… (all of the seat's roots in one cut). By AI agents, Wed Nov 11 2026. No macro, syntax, notation, axiom, sorry.
-/
import Derived.Test.Qxb6604778aChecked
import GoSem.Claim
import GoSem.ClaimJoined
import GoSem.ClaimMapViews
import Derived.JoinedTies
import Derived.KernelRfl
namespace Go.Proofs.Qxb6604778a
/- THE CELL 'sum', in the pinned program and in every row, IS THE sha256 OF THE DUMP (.gsa) THAT Qxb6604778aProg.lean LOADS. Nothing in Lean hashes anything: it is a label: what it is worth is what the hold of that sum in a sandbox is worth. -/
noncomputable def Try.pinned : Pinned := { name := "qxb6604778a", sum := "5baee1da6104dbf80429f0419e081dd35e0542cbb980f69d1dcaf13847b676ca", checked := Try.checked }
namespace Rows
def none {H : Type} : Left H := { results := [], args := [] }

/-- 'zzlaws_chain_b1.FnLaterMatchesRoundByRoundCount': WHATEVER THE INPUT: true; the input reads as it did. -/
def fnLaterMatchesRoundByRoundCountSpec : ChangeSpec := { name := "fnLaterMatchesRoundByRoundCount", fn := fun _ => fun
  | [d1, d2, d3, d4, d5] => { results := [.lit (.bool true)], args := [d1, d2, d3, d4, d5] }
  | _ => none }
def fnLaterMatchesRoundByRoundCountRow : OpenClaim := { program := "qxb6604778a", sum := "5baee1da6104dbf80429f0419e081dd35e0542cbb980f69d1dcaf13847b676ca", func := "example.com/roamproof/roamproof/zzlaws_chain_b1.FnLaterMatchesRoundByRoundCount", spec := "fnLaterMatchesRoundByRoundCount", apart := false }
def FnLaterMatchesRoundByRoundCountSaid : Prop := fnLaterMatchesRoundByRoundCountRow.holds Try.pinned (OpenSpec.ofChange fnLaterMatchesRoundByRoundCountSpec)

/-- ITS FALSE NEIGHBOUR: 'it returns false'. Refute it at one input. -/
def fnLaterMatchesRoundByRoundCountWrong : ChangeSpec := { name := "fnLaterMatchesRoundByRoundCount", fn := fun _ => fun
  | [d1, d2, d3, d4, d5] => { results := [.lit (.bool false)], args := [d1, d2, d3, d4, d5] }
  | _ => none }
def FnLaterMatchesRoundByRoundCountWrongFalsely : Prop := fnLaterMatchesRoundByRoundCountRow.holds Try.pinned (OpenSpec.ofChange fnLaterMatchesRoundByRoundCountWrong)

/-- 'zzlaws_chain_b1.FnLaterStepsOneRoundAtATime': WHATEVER THE INPUT: true; the input reads as it did. -/
def fnLaterStepsOneRoundAtATimeSpec : ChangeSpec := { name := "fnLaterStepsOneRoundAtATime", fn := fun _ => fun
  | [d1, d2, d3, d4, d5] => { results := [.lit (.bool true)], args := [d1, d2, d3, d4, d5] }
  | _ => none }
def fnLaterStepsOneRoundAtATimeRow : OpenClaim := { program := "qxb6604778a", sum := "5baee1da6104dbf80429f0419e081dd35e0542cbb980f69d1dcaf13847b676ca", func := "example.com/roamproof/roamproof/zzlaws_chain_b1.FnLaterStepsOneRoundAtATime", spec := "fnLaterStepsOneRoundAtATime", apart := false }
def FnLaterStepsOneRoundAtATimeSaid : Prop := fnLaterStepsOneRoundAtATimeRow.holds Try.pinned (OpenSpec.ofChange fnLaterStepsOneRoundAtATimeSpec)

/-- ITS FALSE NEIGHBOUR: 'it returns false'. Refute it at one input. -/
def fnLaterStepsOneRoundAtATimeWrong : ChangeSpec := { name := "fnLaterStepsOneRoundAtATime", fn := fun _ => fun
  | [d1, d2, d3, d4, d5] => { results := [.lit (.bool false)], args := [d1, d2, d3, d4, d5] }
  | _ => none }
def FnLaterStepsOneRoundAtATimeWrongFalsely : Prop := fnLaterStepsOneRoundAtATimeRow.holds Try.pinned (OpenSpec.ofChange fnLaterStepsOneRoundAtATimeWrong)

/-- 'zzlaws_chain_b1.FnWalksAreTheOpenWalksOfRoundsSegments': WHATEVER THE INPUT: true; the input reads as it did. -/
def fnWalksAreTheOpenWalksOfRoundsSegmentsSpec : ChangeSpec := { name := "fnWalksAreTheOpenWalksOfRoundsSegments", fn := fun _ => fun
  | [d1, d2, d3, d4] => { results := [.lit (.bool true)], args := [d1, d2, d3, d4] }
  | _ => none }
def fnWalksAreTheOpenWalksOfRoundsSegmentsRow : OpenClaim := { program := "qxb6604778a", sum := "5baee1da6104dbf80429f0419e081dd35e0542cbb980f69d1dcaf13847b676ca", func := "example.com/roamproof/roamproof/zzlaws_chain_b1.FnWalksAreTheOpenWalksOfRoundsSegments", spec := "fnWalksAreTheOpenWalksOfRoundsSegments", unfollowed := true, recurses := true, apart := false }
def FnWalksAreTheOpenWalksOfRoundsSegmentsSaid : Prop := fnWalksAreTheOpenWalksOfRoundsSegmentsRow.holds Try.pinned (OpenSpec.ofChange fnWalksAreTheOpenWalksOfRoundsSegmentsSpec)

/-- ITS FALSE NEIGHBOUR: 'it returns false'. Refute it at one input. -/
def fnWalksAreTheOpenWalksOfRoundsSegmentsWrong : ChangeSpec := { name := "fnWalksAreTheOpenWalksOfRoundsSegments", fn := fun _ => fun
  | [d1, d2, d3, d4] => { results := [.lit (.bool false)], args := [d1, d2, d3, d4] }
  | _ => none }
def FnWalksAreTheOpenWalksOfRoundsSegmentsWrongFalsely : Prop := fnWalksAreTheOpenWalksOfRoundsSegmentsRow.holds Try.pinned (OpenSpec.ofChange fnWalksAreTheOpenWalksOfRoundsSegmentsWrong)

/-- 'zzlaws_chain_b1.FnHeldKeepsSeedAndThisRoundsValueNear': WHATEVER THE INPUT: true; the input reads as it did. -/
def fnHeldKeepsSeedAndThisRoundsValueNearSpec : ChangeSpec := { name := "fnHeldKeepsSeedAndThisRoundsValueNear", fn := fun _ => fun
  | [d1, d2, d3, d4] => { results := [.lit (.bool true)], args := [d1, d2, d3, d4] }
  | _ => none }
def fnHeldKeepsSeedAndThisRoundsValueNearRow : OpenClaim := { program := "qxb6604778a", sum := "5baee1da6104dbf80429f0419e081dd35e0542cbb980f69d1dcaf13847b676ca", func := "example.com/roamproof/roamproof/zzlaws_chain_b1.FnHeldKeepsSeedAndThisRoundsValueNear", spec := "fnHeldKeepsSeedAndThisRoundsValueNear", unfollowed := true, recurses := true, apart := false }
def FnHeldKeepsSeedAndThisRoundsValueNearSaid : Prop := fnHeldKeepsSeedAndThisRoundsValueNearRow.holds Try.pinned (OpenSpec.ofChange fnHeldKeepsSeedAndThisRoundsValueNearSpec)

/-- ITS FALSE NEIGHBOUR: 'it returns false'. Refute it at one input. -/
def fnHeldKeepsSeedAndThisRoundsValueNearWrong : ChangeSpec := { name := "fnHeldKeepsSeedAndThisRoundsValueNear", fn := fun _ => fun
  | [d1, d2, d3, d4] => { results := [.lit (.bool false)], args := [d1, d2, d3, d4] }
  | _ => none }
def FnHeldKeepsSeedAndThisRoundsValueNearWrongFalsely : Prop := fnHeldKeepsSeedAndThisRoundsValueNearRow.holds Try.pinned (OpenSpec.ofChange fnHeldKeepsSeedAndThisRoundsValueNearWrong)

end Rows
end Go.Proofs.Qxb6604778a
