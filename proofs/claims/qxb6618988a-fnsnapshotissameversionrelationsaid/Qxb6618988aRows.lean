/-
  No cell of these rows narrows 'for every input' (looked for: loops, veiled, ifaces, maps, wideKeys, modest, calm, conditions, laid).
  DERIVED. THE GIVEN ROWS OF THIS SEAT. 1 by the template 'for every input the law returns true; each argument reads behind the call as it read before'; 0 by the template 'total and deterministic' (their statements: Qxb6618988aTotals.lean).
  GIVEN WITH THE SEED: the statements are not yours to turn. If you find one false, say at which input.
  Laid BY PROGRAM, IN A SANDBOX (cutbox-rows.mjs): the forced cells as the released guide's own fill.sh prints them over the translation 2ab7722412152275… (all of the seat's roots in one cut). By AI agents, Wed Nov 11 2026. No macro, syntax, notation, axiom, sorry.
-/
import Derived.Test.Qxb6618988aChecked
import GoSem.Claim
import GoSem.ClaimJoined
import GoSem.ClaimMapViews
import Derived.JoinedTies
import Derived.KernelRfl
namespace Go.Proofs.Qxb6618988a
/- THE CELL 'sum', in the pinned program and in every row, IS THE sha256 OF THE DUMP (.gsa) THAT Qxb6618988aProg.lean LOADS. Nothing in Lean hashes anything: it is a label: what it is worth is what the hold of that sum in a sandbox is worth. -/
noncomputable def Try.pinned : Pinned := { name := "qxb6618988a", sum := "2ab7722412152275a6631f97d16dc497903478c57176929127f9f50b5e772e1d", checked := Try.checked }
namespace Rows
def none {H : Type} : Left H := { results := [], args := [] }

/-- 'zzlaws_internal_node_b1.FnSnapshotIsSameVersionRelation': WHATEVER THE INPUT: true; the input reads as it did. -/
def fnSnapshotIsSameVersionRelationSpec : ChangeSpec := { name := "fnSnapshotIsSameVersionRelation", fn := fun _ => fun
  | [d1, d2, d3, d4, d5, d6] => { results := [.lit (.bool true)], args := [d1, d2, d3, d4, d5, d6] }
  | _ => none }
def fnSnapshotIsSameVersionRelationRow : OpenClaim := { program := "qxb6618988a", sum := "2ab7722412152275a6631f97d16dc497903478c57176929127f9f50b5e772e1d", func := "example.com/nearfield/nearfield/zzlaws_internal_node_b1.FnSnapshotIsSameVersionRelation", spec := "fnSnapshotIsSameVersionRelation", apart := false }
def FnSnapshotIsSameVersionRelationSaid : Prop := fnSnapshotIsSameVersionRelationRow.holds Try.pinned (OpenSpec.ofChange fnSnapshotIsSameVersionRelationSpec)

/-- ITS FALSE NEIGHBOUR: 'it returns false'. Refute it at one input. -/
def fnSnapshotIsSameVersionRelationWrong : ChangeSpec := { name := "fnSnapshotIsSameVersionRelation", fn := fun _ => fun
  | [d1, d2, d3, d4, d5, d6] => { results := [.lit (.bool false)], args := [d1, d2, d3, d4, d5, d6] }
  | _ => none }
def FnSnapshotIsSameVersionRelationWrongFalsely : Prop := fnSnapshotIsSameVersionRelationRow.holds Try.pinned (OpenSpec.ofChange fnSnapshotIsSameVersionRelationWrong)

end Rows
end Go.Proofs.Qxb6618988a
