/-
  No cell of these rows narrows 'for every input' (looked for: loops, veiled, ifaces, maps, wideKeys, modest, calm, conditions, laid).
  DERIVED. THE GIVEN ROWS OF THIS SEAT. 5 by the template 'for every input the law returns true; each argument reads behind the call as it read before'; 0 by the template 'total and deterministic' (their statements: Qxb6609296aTotals.lean).
  GIVEN WITH THE SEED: the statements are not yours to turn. If you find one false, say at which input.
  Laid BY PROGRAM, IN A SANDBOX (cutbox-rows.mjs): the forced cells as the released guide's own fill.sh prints them over the translation bd2b9d71c0400cd3… (all of the seat's roots in one cut). By AI agents, Wed Nov 11 2026. No macro, syntax, notation, axiom, sorry.
-/
import Derived.Test.Qxb6609296aChecked
import GoSem.Claim
import GoSem.ClaimJoined
import GoSem.ClaimMapViews
import Derived.JoinedTies
import Derived.KernelRfl
namespace Go.Proofs.Qxb6609296a
/- THE CELL 'sum', in the pinned program and in every row, IS THE sha256 OF THE DUMP (.gsa) THAT Qxb6609296aProg.lean LOADS. Nothing in Lean hashes anything: it is a label: what it is worth is what the hold of that sum in a sandbox is worth. -/
noncomputable def Try.pinned : Pinned := { name := "qxb6609296a", sum := "bd2b9d71c0400cd33017f289a819565b0291858e56bc6609da703362333d4a32", checked := Try.checked }
namespace Rows
def none {H : Type} : Left H := { results := [], args := [] }

/-- 'zzlaws_internal_registry_b1.FnIsAlphanumericAgreesWithTable': WHATEVER THE INPUT: true; the input reads as it did. -/
def fnIsAlphanumericAgreesWithTableSpec : ChangeSpec := { name := "fnIsAlphanumericAgreesWithTable", fn := fun _ => fun
  | [d] => { results := [.lit (.bool true)], args := [d] }
  | _ => none }
def fnIsAlphanumericAgreesWithTableRow : OpenClaim := { program := "qxb6609296a", sum := "bd2b9d71c0400cd33017f289a819565b0291858e56bc6609da703362333d4a32", func := "example.com/outfitter/outfitter/zzlaws_internal_registry_b1.FnIsAlphanumericAgreesWithTable", spec := "fnIsAlphanumericAgreesWithTable", apart := false }
def FnIsAlphanumericAgreesWithTableSaid : Prop := fnIsAlphanumericAgreesWithTableRow.holds Try.pinned (OpenSpec.ofChange fnIsAlphanumericAgreesWithTableSpec)

/-- ITS FALSE NEIGHBOUR: 'it returns false'. Refute it at one input. -/
def fnIsAlphanumericAgreesWithTableWrong : ChangeSpec := { name := "fnIsAlphanumericAgreesWithTable", fn := fun _ => fun
  | [d] => { results := [.lit (.bool false)], args := [d] }
  | _ => none }
def FnIsAlphanumericAgreesWithTableWrongFalsely : Prop := fnIsAlphanumericAgreesWithTableRow.holds Try.pinned (OpenSpec.ofChange fnIsAlphanumericAgreesWithTableWrong)

/-- 'zzlaws_internal_registry_b1.FnIsAlphanumericRankClosedForm': WHATEVER THE INPUT: true; the input reads as it did. -/
def fnIsAlphanumericRankClosedFormSpec : ChangeSpec := { name := "fnIsAlphanumericRankClosedForm", fn := fun _ => fun
  | [d] => { results := [.lit (.bool true)], args := [d] }
  | _ => none }
def fnIsAlphanumericRankClosedFormRow : OpenClaim := { program := "qxb6609296a", sum := "bd2b9d71c0400cd33017f289a819565b0291858e56bc6609da703362333d4a32", func := "example.com/outfitter/outfitter/zzlaws_internal_registry_b1.FnIsAlphanumericRankClosedForm", spec := "fnIsAlphanumericRankClosedForm", apart := false }
def FnIsAlphanumericRankClosedFormSaid : Prop := fnIsAlphanumericRankClosedFormRow.holds Try.pinned (OpenSpec.ofChange fnIsAlphanumericRankClosedFormSpec)

/-- ITS FALSE NEIGHBOUR: 'it returns false'. Refute it at one input. -/
def fnIsAlphanumericRankClosedFormWrong : ChangeSpec := { name := "fnIsAlphanumericRankClosedForm", fn := fun _ => fun
  | [d] => { results := [.lit (.bool false)], args := [d] }
  | _ => none }
def FnIsAlphanumericRankClosedFormWrongFalsely : Prop := fnIsAlphanumericRankClosedFormRow.holds Try.pinned (OpenSpec.ofChange fnIsAlphanumericRankClosedFormWrong)

/-- 'zzlaws_internal_registry_b1.FnNodeKeyRoundTrip': WHATEVER THE INPUT: true; the input reads as it did. -/
def fnNodeKeyRoundTripSpec : ChangeSpec := { name := "fnNodeKeyRoundTrip", fn := fun _ => fun
  | [d1, d2] => { results := [.lit (.bool true)], args := [d1, d2] }
  | _ => none }
def fnNodeKeyRoundTripRow : OpenClaim := { program := "qxb6609296a", sum := "bd2b9d71c0400cd33017f289a819565b0291858e56bc6609da703362333d4a32", func := "example.com/outfitter/outfitter/zzlaws_internal_registry_b1.FnNodeKeyRoundTrip", spec := "fnNodeKeyRoundTrip", apart := false }
def FnNodeKeyRoundTripSaid : Prop := fnNodeKeyRoundTripRow.holds Try.pinned (OpenSpec.ofChange fnNodeKeyRoundTripSpec)

/-- ITS FALSE NEIGHBOUR: 'it returns false'. Refute it at one input. -/
def fnNodeKeyRoundTripWrong : ChangeSpec := { name := "fnNodeKeyRoundTrip", fn := fun _ => fun
  | [d1, d2] => { results := [.lit (.bool false)], args := [d1, d2] }
  | _ => none }
def FnNodeKeyRoundTripWrongFalsely : Prop := fnNodeKeyRoundTripRow.holds Try.pinned (OpenSpec.ofChange fnNodeKeyRoundTripWrong)

/-- 'zzlaws_internal_registry_b1.FnNodeKeyOrdersByCountThenNode': WHATEVER THE INPUT: true; the input reads as it did. -/
def fnNodeKeyOrdersByCountThenNodeSpec : ChangeSpec := { name := "fnNodeKeyOrdersByCountThenNode", fn := fun _ => fun
  | [d1, d2, d3, d4] => { results := [.lit (.bool true)], args := [d1, d2, d3, d4] }
  | _ => none }
def fnNodeKeyOrdersByCountThenNodeRow : OpenClaim := { program := "qxb6609296a", sum := "bd2b9d71c0400cd33017f289a819565b0291858e56bc6609da703362333d4a32", func := "example.com/outfitter/outfitter/zzlaws_internal_registry_b1.FnNodeKeyOrdersByCountThenNode", spec := "fnNodeKeyOrdersByCountThenNode", apart := false }
def FnNodeKeyOrdersByCountThenNodeSaid : Prop := fnNodeKeyOrdersByCountThenNodeRow.holds Try.pinned (OpenSpec.ofChange fnNodeKeyOrdersByCountThenNodeSpec)

/-- ITS FALSE NEIGHBOUR: 'it returns false'. Refute it at one input. -/
def fnNodeKeyOrdersByCountThenNodeWrong : ChangeSpec := { name := "fnNodeKeyOrdersByCountThenNode", fn := fun _ => fun
  | [d1, d2, d3, d4] => { results := [.lit (.bool false)], args := [d1, d2, d3, d4] }
  | _ => none }
def FnNodeKeyOrdersByCountThenNodeWrongFalsely : Prop := fnNodeKeyOrdersByCountThenNodeRow.holds Try.pinned (OpenSpec.ofChange fnNodeKeyOrdersByCountThenNodeWrong)

/-- 'zzlaws_internal_registry_b1.FnHeldGroupsOneListGroupsByNode': WHATEVER THE INPUT: true; the input reads as it did. -/
def fnHeldGroupsOneListGroupsByNodeSpec : ChangeSpec := { name := "fnHeldGroupsOneListGroupsByNode", fn := fun _ => fun
  | [d1, d2, d3, d4, d5] => { results := [.lit (.bool true)], args := [d1, d2, d3, d4, d5] }
  | _ => none }
def fnHeldGroupsOneListGroupsByNodeRow : OpenClaim := { program := "qxb6609296a", sum := "bd2b9d71c0400cd33017f289a819565b0291858e56bc6609da703362333d4a32", func := "example.com/outfitter/outfitter/zzlaws_internal_registry_b1.FnHeldGroupsOneListGroupsByNode", spec := "fnHeldGroupsOneListGroupsByNode", inPlace := ["internal/bytealg.abigen_runtime_cmpstring"], unfollowed := true, recurses := true, apart := false }
def FnHeldGroupsOneListGroupsByNodeSaid : Prop := fnHeldGroupsOneListGroupsByNodeRow.holds Try.pinned (OpenSpec.ofChange fnHeldGroupsOneListGroupsByNodeSpec)

/-- ITS FALSE NEIGHBOUR: 'it returns false'. Refute it at one input. -/
def fnHeldGroupsOneListGroupsByNodeWrong : ChangeSpec := { name := "fnHeldGroupsOneListGroupsByNode", fn := fun _ => fun
  | [d1, d2, d3, d4, d5] => { results := [.lit (.bool false)], args := [d1, d2, d3, d4, d5] }
  | _ => none }
def FnHeldGroupsOneListGroupsByNodeWrongFalsely : Prop := fnHeldGroupsOneListGroupsByNodeRow.holds Try.pinned (OpenSpec.ofChange fnHeldGroupsOneListGroupsByNodeWrong)

end Rows
end Go.Proofs.Qxb6609296a
