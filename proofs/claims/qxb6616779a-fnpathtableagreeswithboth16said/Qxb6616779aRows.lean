/-
  No cell of these rows narrows 'for every input' (looked for: loops, veiled, ifaces, maps, wideKeys, modest, calm, conditions, laid).
  DERIVED. THE GIVEN ROWS OF THIS SEAT. 3 by the template 'for every input the law returns true; each argument reads behind the call as it read before'; 0 by the template 'total and deterministic' (their statements: Qxb6616779aTotals.lean).
  GIVEN WITH THE SEED: the statements are not yours to turn. If you find one false, say at which input.
  Laid BY PROGRAM, IN A SANDBOX (cutbox-rows.mjs): the forced cells as the released guide's own fill.sh prints them over the translation effab13e65faf8e1… (all of the seat's roots in one cut). By AI agents, Wed Nov 11 2026. No macro, syntax, notation, axiom, sorry.
-/
import Derived.Test.Qxb6616779aChecked
import GoSem.Claim
import GoSem.ClaimJoined
import GoSem.ClaimMapViews
import Derived.JoinedTies
import Derived.KernelRfl
namespace Go.Proofs.Qxb6616779a
/- THE CELL 'sum', in the pinned program and in every row, IS THE sha256 OF THE DUMP (.gsa) THAT Qxb6616779aProg.lean LOADS. Nothing in Lean hashes anything: it is a label: what it is worth is what the hold of that sum in a sandbox is worth. -/
noncomputable def Try.pinned : Pinned := { name := "qxb6616779a", sum := "effab13e65faf8e19a0352558c5f599cce15b2f1734d99edd77e18b176c4ba9e", checked := Try.checked }
namespace Rows
def none {H : Type} : Left H := { results := [], args := [] }

/-- 'zzlaws_internal_iso_b1.FnPathTableAgreesWithBoth16': WHATEVER THE INPUT: true; the input reads as it did. -/
def fnPathTableAgreesWithBoth16Spec : ChangeSpec := { name := "fnPathTableAgreesWithBoth16", fn := fun _ => fun
  | [d] => { results := [.lit (.bool true)], args := [d] }
  | _ => none }
def fnPathTableAgreesWithBoth16Row : OpenClaim := { program := "qxb6616779a", sum := "effab13e65faf8e19a0352558c5f599cce15b2f1734d99edd77e18b176c4ba9e", func := "example.com/keelboot/keelboot/zzlaws_internal_iso_b1.FnPathTableAgreesWithBoth16", spec := "fnPathTableAgreesWithBoth16", unfollowed := true, recurses := true, named := ["encoding/binary.LittleEndian", "encoding/binary.BigEndian"], apart := false }
def FnPathTableAgreesWithBoth16Said : Prop := fnPathTableAgreesWithBoth16Row.holds Try.pinned (OpenSpec.ofChange fnPathTableAgreesWithBoth16Spec)

/-- ITS FALSE NEIGHBOUR: 'it returns false'. Refute it at one input. -/
def fnPathTableAgreesWithBoth16Wrong : ChangeSpec := { name := "fnPathTableAgreesWithBoth16", fn := fun _ => fun
  | [d] => { results := [.lit (.bool false)], args := [d] }
  | _ => none }
def FnPathTableAgreesWithBoth16WrongFalsely : Prop := fnPathTableAgreesWithBoth16Row.holds Try.pinned (OpenSpec.ofChange fnPathTableAgreesWithBoth16Wrong)

/-- 'zzlaws_internal_iso_b1.FnBoth16SwappedValueMirrors': WHATEVER THE INPUT: true; the input reads as it did. -/
def fnBoth16SwappedValueMirrorsSpec : ChangeSpec := { name := "fnBoth16SwappedValueMirrors", fn := fun _ => fun
  | [d1, d2] => { results := [.lit (.bool true)], args := [d1, d2] }
  | _ => none }
def fnBoth16SwappedValueMirrorsRow : OpenClaim := { program := "qxb6616779a", sum := "effab13e65faf8e19a0352558c5f599cce15b2f1734d99edd77e18b176c4ba9e", func := "example.com/keelboot/keelboot/zzlaws_internal_iso_b1.FnBoth16SwappedValueMirrors", spec := "fnBoth16SwappedValueMirrors", named := ["encoding/binary.LittleEndian", "encoding/binary.BigEndian"], apart := false }
def FnBoth16SwappedValueMirrorsSaid : Prop := fnBoth16SwappedValueMirrorsRow.holds Try.pinned (OpenSpec.ofChange fnBoth16SwappedValueMirrorsSpec)

/-- ITS FALSE NEIGHBOUR: 'it returns false'. Refute it at one input. -/
def fnBoth16SwappedValueMirrorsWrong : ChangeSpec := { name := "fnBoth16SwappedValueMirrors", fn := fun _ => fun
  | [d1, d2] => { results := [.lit (.bool false)], args := [d1, d2] }
  | _ => none }
def FnBoth16SwappedValueMirrorsWrongFalsely : Prop := fnBoth16SwappedValueMirrorsRow.holds Try.pinned (OpenSpec.ofChange fnBoth16SwappedValueMirrorsWrong)

/-- 'zzlaws_internal_iso_b1.FnBoth16InjectiveAndOverwrites': WHATEVER THE INPUT: true; the input reads as it did. -/
def fnBoth16InjectiveAndOverwritesSpec : ChangeSpec := { name := "fnBoth16InjectiveAndOverwrites", fn := fun _ => fun
  | [d1, d2, d3] => { results := [.lit (.bool true)], args := [d1, d2, d3] }
  | _ => none }
def fnBoth16InjectiveAndOverwritesRow : OpenClaim := { program := "qxb6616779a", sum := "effab13e65faf8e19a0352558c5f599cce15b2f1734d99edd77e18b176c4ba9e", func := "example.com/keelboot/keelboot/zzlaws_internal_iso_b1.FnBoth16InjectiveAndOverwrites", spec := "fnBoth16InjectiveAndOverwrites", named := ["encoding/binary.LittleEndian", "encoding/binary.BigEndian"], apart := false }
def FnBoth16InjectiveAndOverwritesSaid : Prop := fnBoth16InjectiveAndOverwritesRow.holds Try.pinned (OpenSpec.ofChange fnBoth16InjectiveAndOverwritesSpec)

/-- ITS FALSE NEIGHBOUR: 'it returns false'. Refute it at one input. -/
def fnBoth16InjectiveAndOverwritesWrong : ChangeSpec := { name := "fnBoth16InjectiveAndOverwrites", fn := fun _ => fun
  | [d1, d2, d3] => { results := [.lit (.bool false)], args := [d1, d2, d3] }
  | _ => none }
def FnBoth16InjectiveAndOverwritesWrongFalsely : Prop := fnBoth16InjectiveAndOverwritesRow.holds Try.pinned (OpenSpec.ofChange fnBoth16InjectiveAndOverwritesWrong)

end Rows
end Go.Proofs.Qxb6616779a
