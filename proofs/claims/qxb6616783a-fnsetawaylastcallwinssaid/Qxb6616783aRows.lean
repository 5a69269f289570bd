/-
  No cell of these rows narrows 'for every input' (looked for: loops, veiled, ifaces, maps, wideKeys, modest, calm, conditions, laid).
  DERIVED. THE GIVEN ROWS OF THIS SEAT. 4 by the template 'for every input the law returns true; each argument reads behind the call as it read before'; 0 by the template 'total and deterministic' (their statements: Qxb6616783aTotals.lean).
  GIVEN WITH THE SEED: the statements are not yours to turn. If you find one false, say at which input.
  Laid BY PROGRAM, IN A SANDBOX (cutbox-rows.mjs): the forced cells as the released guide's own fill.sh prints them over the translation e360b5536733f23d… (all of the seat's roots in one cut). By AI agents, Wed Nov 11 2026. No macro, syntax, notation, axiom, sorry.
-/
import Derived.Test.Qxb6616783aChecked
import GoSem.Claim
import GoSem.ClaimJoined
import GoSem.ClaimMapViews
import Derived.JoinedTies
import Derived.KernelRfl
namespace Go.Proofs.Qxb6616783a
/- THE CELL 'sum', in the pinned program and in every row, IS THE sha256 OF THE DUMP (.gsa) THAT Qxb6616783aProg.lean LOADS. Nothing in Lean hashes anything: it is a label: what it is worth is what the hold of that sum in a sandbox is worth. -/
noncomputable def Try.pinned : Pinned := { name := "qxb6616783a", sum := "e360b5536733f23d4e8ee12268d6c05ca3f2929683bf553c2d8845d9da0ebd83", checked := Try.checked }
namespace Rows
def none {H : Type} : Left H := { results := [], args := [] }

/-- 'zzlaws_root_b1.FnReleasesReadLocksOneOfThree': WHATEVER THE INPUT: true; the input reads as it did. -/
def fnReleasesReadLocksOneOfThreeSpec : ChangeSpec := { name := "fnReleasesReadLocksOneOfThree", fn := fun _ => fun
  | [d] => { results := [.lit (.bool true)], args := [d] }
  | _ => none }
def fnReleasesReadLocksOneOfThreeRow : OpenClaim := { program := "qxb6616783a", sum := "e360b5536733f23d4e8ee12268d6c05ca3f2929683bf553c2d8845d9da0ebd83", func := "example.com/lockwright/lockwright/zzlaws_root_b1.FnReleasesReadLocksOneOfThree", spec := "fnReleasesReadLocksOneOfThree", apart := false }
def FnReleasesReadLocksOneOfThreeSaid : Prop := fnReleasesReadLocksOneOfThreeRow.holds Try.pinned (OpenSpec.ofChange fnReleasesReadLocksOneOfThreeSpec)

/-- ITS FALSE NEIGHBOUR: 'it returns false'. Refute it at one input. -/
def fnReleasesReadLocksOneOfThreeWrong : ChangeSpec := { name := "fnReleasesReadLocksOneOfThree", fn := fun _ => fun
  | [d] => { results := [.lit (.bool false)], args := [d] }
  | _ => none }
def FnReleasesReadLocksOneOfThreeWrongFalsely : Prop := fnReleasesReadLocksOneOfThreeRow.holds Try.pinned (OpenSpec.ofChange fnReleasesReadLocksOneOfThreeWrong)

/-- 'zzlaws_root_b1.FnReadLockReleaseSitsBetween': WHATEVER THE INPUT: true; the input reads as it did. -/
def fnReadLockReleaseSitsBetweenSpec : ChangeSpec := { name := "fnReadLockReleaseSitsBetween", fn := fun _ => fun
  | [d1, d2] => { results := [.lit (.bool true)], args := [d1, d2] }
  | _ => none }
def fnReadLockReleaseSitsBetweenRow : OpenClaim := { program := "qxb6616783a", sum := "e360b5536733f23d4e8ee12268d6c05ca3f2929683bf553c2d8845d9da0ebd83", func := "example.com/lockwright/lockwright/zzlaws_root_b1.FnReadLockReleaseSitsBetween", spec := "fnReadLockReleaseSitsBetween", apart := false }
def FnReadLockReleaseSitsBetweenSaid : Prop := fnReadLockReleaseSitsBetweenRow.holds Try.pinned (OpenSpec.ofChange fnReadLockReleaseSitsBetweenSpec)

/-- ITS FALSE NEIGHBOUR: 'it returns false'. Refute it at one input. -/
def fnReadLockReleaseSitsBetweenWrong : ChangeSpec := { name := "fnReadLockReleaseSitsBetween", fn := fun _ => fun
  | [d1, d2] => { results := [.lit (.bool false)], args := [d1, d2] }
  | _ => none }
def FnReadLockReleaseSitsBetweenWrongFalsely : Prop := fnReadLockReleaseSitsBetweenRow.holds Try.pinned (OpenSpec.ofChange fnReadLockReleaseSitsBetweenWrong)

/-- 'zzlaws_root_b1.FnSetAwayLastCallWins': WHATEVER THE INPUT: true; the input reads as it did. -/
def fnSetAwayLastCallWinsSpec : ChangeSpec := { name := "fnSetAwayLastCallWins", fn := fun _ => fun
  | [d1, d2, d3] => { results := [.lit (.bool true)], args := [d1, d2, d3] }
  | _ => none }
def fnSetAwayLastCallWinsRow : OpenClaim := { program := "qxb6616783a", sum := "e360b5536733f23d4e8ee12268d6c05ca3f2929683bf553c2d8845d9da0ebd83", func := "example.com/lockwright/lockwright/zzlaws_root_b1.FnSetAwayLastCallWins", spec := "fnSetAwayLastCallWins", inPlace := ["sync/atomic.OrUint32", "sync/atomic.AndUint32"], apart := false }
def FnSetAwayLastCallWinsSaid : Prop := fnSetAwayLastCallWinsRow.holds Try.pinned (OpenSpec.ofChange fnSetAwayLastCallWinsSpec)

/-- ITS FALSE NEIGHBOUR: 'it returns false'. Refute it at one input. -/
def fnSetAwayLastCallWinsWrong : ChangeSpec := { name := "fnSetAwayLastCallWins", fn := fun _ => fun
  | [d1, d2, d3] => { results := [.lit (.bool false)], args := [d1, d2, d3] }
  | _ => none }
def FnSetAwayLastCallWinsWrongFalsely : Prop := fnSetAwayLastCallWinsRow.holds Try.pinned (OpenSpec.ofChange fnSetAwayLastCallWinsWrong)

/-- 'zzlaws_root_b1.FnSetAwayLeavesSpinningAlone': WHATEVER THE INPUT: true; the input reads as it did. -/
def fnSetAwayLeavesSpinningAloneSpec : ChangeSpec := { name := "fnSetAwayLeavesSpinningAlone", fn := fun _ => fun
  | [d1, d2, d3] => { results := [.lit (.bool true)], args := [d1, d2, d3] }
  | _ => none }
def fnSetAwayLeavesSpinningAloneRow : OpenClaim := { program := "qxb6616783a", sum := "e360b5536733f23d4e8ee12268d6c05ca3f2929683bf553c2d8845d9da0ebd83", func := "example.com/lockwright/lockwright/zzlaws_root_b1.FnSetAwayLeavesSpinningAlone", spec := "fnSetAwayLeavesSpinningAlone", inPlace := ["sync/atomic.OrUint32", "sync/atomic.AndUint32"], apart := false }
def FnSetAwayLeavesSpinningAloneSaid : Prop := fnSetAwayLeavesSpinningAloneRow.holds Try.pinned (OpenSpec.ofChange fnSetAwayLeavesSpinningAloneSpec)

/-- ITS FALSE NEIGHBOUR: 'it returns false'. Refute it at one input. -/
def fnSetAwayLeavesSpinningAloneWrong : ChangeSpec := { name := "fnSetAwayLeavesSpinningAlone", fn := fun _ => fun
  | [d1, d2, d3] => { results := [.lit (.bool false)], args := [d1, d2, d3] }
  | _ => none }
def FnSetAwayLeavesSpinningAloneWrongFalsely : Prop := fnSetAwayLeavesSpinningAloneRow.holds Try.pinned (OpenSpec.ofChange fnSetAwayLeavesSpinningAloneWrong)

end Rows
end Go.Proofs.Qxb6616783a
