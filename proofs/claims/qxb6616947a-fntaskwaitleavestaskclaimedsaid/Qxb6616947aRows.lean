/-
  No cell of these rows narrows 'for every input' (looked for: loops, veiled, ifaces, maps, wideKeys, modest, calm, conditions, laid).
  DERIVED. THE GIVEN ROWS OF THIS SEAT. 4 by the template 'for every input the law returns true; each argument reads behind the call as it read before'; 0 by the template 'total and deterministic' (their statements: Qxb6616947aTotals.lean).
  GIVEN WITH THE SEED: the statements are not yours to turn. If you find one false, say at which input.
  Laid BY PROGRAM, IN A SANDBOX (cutbox-rows.mjs): the forced cells as the released guide's own fill.sh prints them over the translation c348e805b02808c5… (all of the seat's roots in one cut). By AI agents, Wed Nov 11 2026. No macro, syntax, notation, axiom, sorry.
-/
import Derived.Test.Qxb6616947aChecked
import GoSem.Claim
import GoSem.ClaimJoined
import GoSem.ClaimMapViews
import Derived.JoinedTies
import Derived.KernelRfl
namespace Go.Proofs.Qxb6616947a
/- THE CELL 'sum', in the pinned program and in every row, IS THE sha256 OF THE DUMP (.gsa) THAT Qxb6616947aProg.lean LOADS. Nothing in Lean hashes anything: it is a label: what it is worth is what the hold of that sum in a sandbox is worth. -/
noncomputable def Try.pinned : Pinned := { name := "qxb6616947a", sum := "c348e805b02808c56b1991ea9ed2d7256adcb93ca7f44bc67aafa59595746af2", checked := Try.checked }
namespace Rows
def none {H : Type} : Left H := { results := [], args := [] }

/-- 'zzlaws_validator_b1.FnVerdictTextSharesSeparator': WHATEVER THE INPUT: true; the input reads as it did. -/
def fnVerdictTextSharesSeparatorSpec : ChangeSpec := { name := "fnVerdictTextSharesSeparator", fn := fun _ => fun
  | [d1, d2] => { results := [.lit (.bool true)], args := [d1, d2] }
  | _ => none }
def fnVerdictTextSharesSeparatorRow : OpenClaim := { program := "qxb6616947a", sum := "c348e805b02808c56b1991ea9ed2d7256adcb93ca7f44bc67aafa59595746af2", func := "example.com/originseal/originseal/zzlaws_validator_b1.FnVerdictTextSharesSeparator", spec := "fnVerdictTextSharesSeparator", unfollowed := true, recurses := true, apart := false }
def FnVerdictTextSharesSeparatorSaid : Prop := fnVerdictTextSharesSeparatorRow.holds Try.pinned (OpenSpec.ofChange fnVerdictTextSharesSeparatorSpec)

/-- ITS FALSE NEIGHBOUR: 'it returns false'. Refute it at one input. -/
def fnVerdictTextSharesSeparatorWrong : ChangeSpec := { name := "fnVerdictTextSharesSeparator", fn := fun _ => fun
  | [d1, d2] => { results := [.lit (.bool false)], args := [d1, d2] }
  | _ => none }
def FnVerdictTextSharesSeparatorWrongFalsely : Prop := fnVerdictTextSharesSeparatorRow.holds Try.pinned (OpenSpec.ofChange fnVerdictTextSharesSeparatorWrong)

/-- 'zzlaws_validator_b1.FnVerdictTextCannotTellURIFromMessage': WHATEVER THE INPUT: true; the input reads as it did. -/
def fnVerdictTextCannotTellURIFromMessageSpec : ChangeSpec := { name := "fnVerdictTextCannotTellURIFromMessage", fn := fun _ => fun
  | [d1, d2, d3] => { results := [.lit (.bool true)], args := [d1, d2, d3] }
  | _ => none }
def fnVerdictTextCannotTellURIFromMessageRow : OpenClaim := { program := "qxb6616947a", sum := "c348e805b02808c56b1991ea9ed2d7256adcb93ca7f44bc67aafa59595746af2", func := "example.com/originseal/originseal/zzlaws_validator_b1.FnVerdictTextCannotTellURIFromMessage", spec := "fnVerdictTextCannotTellURIFromMessage", unfollowed := true, recurses := true, apart := false }
def FnVerdictTextCannotTellURIFromMessageSaid : Prop := fnVerdictTextCannotTellURIFromMessageRow.holds Try.pinned (OpenSpec.ofChange fnVerdictTextCannotTellURIFromMessageSpec)

/-- ITS FALSE NEIGHBOUR: 'it returns false'. Refute it at one input. -/
def fnVerdictTextCannotTellURIFromMessageWrong : ChangeSpec := { name := "fnVerdictTextCannotTellURIFromMessage", fn := fun _ => fun
  | [d1, d2, d3] => { results := [.lit (.bool false)], args := [d1, d2, d3] }
  | _ => none }
def FnVerdictTextCannotTellURIFromMessageWrongFalsely : Prop := fnVerdictTextCannotTellURIFromMessageRow.holds Try.pinned (OpenSpec.ofChange fnVerdictTextCannotTellURIFromMessageWrong)

/-- 'zzlaws_validator_b1.FnTaskWaitLeavesTaskClaimed': WHATEVER THE INPUT: true; the input reads as it did. -/
def fnTaskWaitLeavesTaskClaimedSpec : ChangeSpec := { name := "fnTaskWaitLeavesTaskClaimed", fn := fun _ => fun
  | [d] => { results := [.lit (.bool true)], args := [d] }
  | _ => none }
def fnTaskWaitLeavesTaskClaimedRow : OpenClaim := { program := "qxb6616947a", sum := "c348e805b02808c56b1991ea9ed2d7256adcb93ca7f44bc67aafa59595746af2", func := "example.com/originseal/originseal/zzlaws_validator_b1.FnTaskWaitLeavesTaskClaimed", spec := "fnTaskWaitLeavesTaskClaimed", inPlace := ["sync/atomic.CompareAndSwapUint32", "sync/atomic.LoadUint32"], unfollowed := true, recurses := true, apart := false }
def FnTaskWaitLeavesTaskClaimedSaid : Prop := fnTaskWaitLeavesTaskClaimedRow.holds Try.pinned (OpenSpec.ofChange fnTaskWaitLeavesTaskClaimedSpec)

/-- ITS FALSE NEIGHBOUR: 'it returns false'. Refute it at one input. -/
def fnTaskWaitLeavesTaskClaimedWrong : ChangeSpec := { name := "fnTaskWaitLeavesTaskClaimed", fn := fun _ => fun
  | [d] => { results := [.lit (.bool false)], args := [d] }
  | _ => none }
def FnTaskWaitLeavesTaskClaimedWrongFalsely : Prop := fnTaskWaitLeavesTaskClaimedRow.holds Try.pinned (OpenSpec.ofChange fnTaskWaitLeavesTaskClaimedWrong)

/-- 'zzlaws_validator_b1.FnTaskWaitRepeatedReturns': WHATEVER THE INPUT: true; the input reads as it did. -/
def fnTaskWaitRepeatedReturnsSpec : ChangeSpec := { name := "fnTaskWaitRepeatedReturns", fn := fun _ => fun
  | [d] => { results := [.lit (.bool true)], args := [d] }
  | _ => none }
def fnTaskWaitRepeatedReturnsRow : OpenClaim := { program := "qxb6616947a", sum := "c348e805b02808c56b1991ea9ed2d7256adcb93ca7f44bc67aafa59595746af2", func := "example.com/originseal/originseal/zzlaws_validator_b1.FnTaskWaitRepeatedReturns", spec := "fnTaskWaitRepeatedReturns", inPlace := ["sync/atomic.CompareAndSwapUint32", "sync/atomic.LoadUint32"], unfollowed := true, recurses := true, apart := false }
def FnTaskWaitRepeatedReturnsSaid : Prop := fnTaskWaitRepeatedReturnsRow.holds Try.pinned (OpenSpec.ofChange fnTaskWaitRepeatedReturnsSpec)

/-- ITS FALSE NEIGHBOUR: 'it returns false'. Refute it at one input. -/
def fnTaskWaitRepeatedReturnsWrong : ChangeSpec := { name := "fnTaskWaitRepeatedReturns", fn := fun _ => fun
  | [d] => { results := [.lit (.bool false)], args := [d] }
  | _ => none }
def FnTaskWaitRepeatedReturnsWrongFalsely : Prop := fnTaskWaitRepeatedReturnsRow.holds Try.pinned (OpenSpec.ofChange fnTaskWaitRepeatedReturnsWrong)

end Rows
end Go.Proofs.Qxb6616947a
