/-
  No cell of these rows narrows 'for every input' (looked for: loops, veiled, ifaces, maps, wideKeys, modest, calm, conditions, laid).
  DERIVED. THE GIVEN ROWS OF THIS SEAT. 3 by the template 'for every input the law returns true; each argument reads behind the call as it read before'; 0 by the template 'total and deterministic' (their statements: Qxb6616799aTotals.lean).
  GIVEN WITH THE SEED: the statements are not yours to turn. If you find one false, say at which input.
  Laid BY PROGRAM, IN A SANDBOX (cutbox-rows.mjs): the forced cells as the released guide's own fill.sh prints them over the translation cd59737dc084b395… (all of the seat's roots in one cut). By AI agents, Wed Nov 11 2026. No macro, syntax, notation, axiom, sorry.
-/
import Derived.Test.Qxb6616799aChecked
import GoSem.Claim
import GoSem.ClaimJoined
import GoSem.ClaimMapViews
import Derived.JoinedTies
import Derived.KernelRfl
namespace Go.Proofs.Qxb6616799a
/- THE CELL 'sum', in the pinned program and in every row, IS THE sha256 OF THE DUMP (.gsa) THAT Qxb6616799aProg.lean LOADS. Nothing in Lean hashes anything: it is a label: what it is worth is what the hold of that sum in a sandbox is worth. -/
noncomputable def Try.pinned : Pinned := { name := "qxb6616799a", sum := "cd59737dc084b395819c0d602b98bff7c0b8c1fb2671a5ea4a5474c8cfd15c84", checked := Try.checked }
namespace Rows
def none {H : Type} : Left H := { results := [], args := [] }

/-- 'zzlaws_internal_store_b1.FnShortestCycleIsAShortestWaitCycle': WHATEVER THE INPUT: true; the input reads as it did. -/
def fnShortestCycleIsAShortestWaitCycleSpec : ChangeSpec := { name := "fnShortestCycleIsAShortestWaitCycle", fn := fun _ => fun
  | [d1, d2, d3] => { results := [.lit (.bool true)], args := [d1, d2, d3] }
  | _ => none }
def fnShortestCycleIsAShortestWaitCycleRow : OpenClaim := { program := "qxb6616799a", sum := "cd59737dc084b395819c0d602b98bff7c0b8c1fb2671a5ea4a5474c8cfd15c84", func := "example.com/seriatim/seriatim/zzlaws_internal_store_b1.FnShortestCycleIsAShortestWaitCycle", spec := "fnShortestCycleIsAShortestWaitCycle", unfollowed := true, recurses := true, apart := false }
def FnShortestCycleIsAShortestWaitCycleSaid : Prop := fnShortestCycleIsAShortestWaitCycleRow.holds Try.pinned (OpenSpec.ofChange fnShortestCycleIsAShortestWaitCycleSpec)

/-- ITS FALSE NEIGHBOUR: 'it returns false'. Refute it at one input. -/
def fnShortestCycleIsAShortestWaitCycleWrong : ChangeSpec := { name := "fnShortestCycleIsAShortestWaitCycle", fn := fun _ => fun
  | [d1, d2, d3] => { results := [.lit (.bool false)], args := [d1, d2, d3] }
  | _ => none }
def FnShortestCycleIsAShortestWaitCycleWrongFalsely : Prop := fnShortestCycleIsAShortestWaitCycleRow.holds Try.pinned (OpenSpec.ofChange fnShortestCycleIsAShortestWaitCycleWrong)

/-- 'zzlaws_internal_store_b1.FnBlockersUnderPastReadersDropOnlyTheSharedOnes': WHATEVER THE INPUT: true; the input reads as it did. -/
def fnBlockersUnderPastReadersDropOnlyTheSharedOnesSpec : ChangeSpec := { name := "fnBlockersUnderPastReadersDropOnlyTheSharedOnes", fn := fun _ => fun
  | [d1, d2, d3, d4, d5] => { results := [.lit (.bool true)], args := [d1, d2, d3, d4, d5] }
  | _ => none }
def fnBlockersUnderPastReadersDropOnlyTheSharedOnesRow : OpenClaim := { program := "qxb6616799a", sum := "cd59737dc084b395819c0d602b98bff7c0b8c1fb2671a5ea4a5474c8cfd15c84", func := "example.com/seriatim/seriatim/zzlaws_internal_store_b1.FnBlockersUnderPastReadersDropOnlyTheSharedOnes", spec := "fnBlockersUnderPastReadersDropOnlyTheSharedOnes", apart := false }
def FnBlockersUnderPastReadersDropOnlyTheSharedOnesSaid : Prop := fnBlockersUnderPastReadersDropOnlyTheSharedOnesRow.holds Try.pinned (OpenSpec.ofChange fnBlockersUnderPastReadersDropOnlyTheSharedOnesSpec)

/-- ITS FALSE NEIGHBOUR: 'it returns false'. Refute it at one input. -/
def fnBlockersUnderPastReadersDropOnlyTheSharedOnesWrong : ChangeSpec := { name := "fnBlockersUnderPastReadersDropOnlyTheSharedOnes", fn := fun _ => fun
  | [d1, d2, d3, d4, d5] => { results := [.lit (.bool false)], args := [d1, d2, d3, d4, d5] }
  | _ => none }
def FnBlockersUnderPastReadersDropOnlyTheSharedOnesWrongFalsely : Prop := fnBlockersUnderPastReadersDropOnlyTheSharedOnesRow.holds Try.pinned (OpenSpec.ofChange fnBlockersUnderPastReadersDropOnlyTheSharedOnesWrong)

/-- 'zzlaws_internal_store_b1.FnGrantGrantsNothingPastABlockedHeadAndForgetsAnIdleLock': WHATEVER THE INPUT: true; the input reads as it did. -/
def fnGrantGrantsNothingPastABlockedHeadAndForgetsAnIdleLockSpec : ChangeSpec := { name := "fnGrantGrantsNothingPastABlockedHeadAndForgetsAnIdleLock", fn := fun _ => fun
  | [d1, d2, d3, d4, d5] => { results := [.lit (.bool true)], args := [d1, d2, d3, d4, d5] }
  | _ => none }
def fnGrantGrantsNothingPastABlockedHeadAndForgetsAnIdleLockRow : OpenClaim := { program := "qxb6616799a", sum := "cd59737dc084b395819c0d602b98bff7c0b8c1fb2671a5ea4a5474c8cfd15c84", func := "example.com/seriatim/seriatim/zzlaws_internal_store_b1.FnGrantGrantsNothingPastABlockedHeadAndForgetsAnIdleLock", spec := "fnGrantGrantsNothingPastABlockedHeadAndForgetsAnIdleLock", unfollowed := true, recurses := true, apart := false }
def FnGrantGrantsNothingPastABlockedHeadAndForgetsAnIdleLockSaid : Prop := fnGrantGrantsNothingPastABlockedHeadAndForgetsAnIdleLockRow.holds Try.pinned (OpenSpec.ofChange fnGrantGrantsNothingPastABlockedHeadAndForgetsAnIdleLockSpec)

/-- ITS FALSE NEIGHBOUR: 'it returns false'. Refute it at one input. -/
def fnGrantGrantsNothingPastABlockedHeadAndForgetsAnIdleLockWrong : ChangeSpec := { name := "fnGrantGrantsNothingPastABlockedHeadAndForgetsAnIdleLock", fn := fun _ => fun
  | [d1, d2, d3, d4, d5] => { results := [.lit (.bool false)], args := [d1, d2, d3, d4, d5] }
  | _ => none }
def FnGrantGrantsNothingPastABlockedHeadAndForgetsAnIdleLockWrongFalsely : Prop := fnGrantGrantsNothingPastABlockedHeadAndForgetsAnIdleLockRow.holds Try.pinned (OpenSpec.ofChange fnGrantGrantsNothingPastABlockedHeadAndForgetsAnIdleLockWrong)

end Rows
end Go.Proofs.Qxb6616799a
