/-
  No cell of these rows narrows 'for every input' (looked for: loops, veiled, ifaces, maps, wideKeys, modest, calm, conditions, laid).
  DERIVED. THE GIVEN ROWS OF THIS SEAT. 1 by the template 'for every input the law returns true; each argument reads behind the call as it read before'; 0 by the template 'total and deterministic' (their statements: Qxb6609300aTotals.lean).
  GIVEN WITH THE SEED: the statements are not yours to turn. If you find one false, say at which input.
  Laid BY PROGRAM, IN A SANDBOX (cutbox-rows.mjs): the forced cells as the released guide's own fill.sh prints them over the translation d3794efdc6d01618… (all of the seat's roots in one cut). By AI agents, Wed Nov 11 2026. No macro, syntax, notation, axiom, sorry.
-/
import Derived.Test.Qxb6609300aChecked
import GoSem.Claim
import GoSem.ClaimJoined
import GoSem.ClaimMapViews
import Derived.JoinedTies
import Derived.KernelRfl
namespace Go.Proofs.Qxb6609300a
/- THE CELL 'sum', in the pinned program and in every row, IS THE sha256 OF THE DUMP (.gsa) THAT Qxb6609300aProg.lean LOADS. Nothing in Lean hashes anything: it is a label: what it is worth is what the hold of that sum in a sandbox is worth. -/
noncomputable def Try.pinned : Pinned := { name := "qxb6609300a", sum := "d3794efdc6d0161849a059f11ff0f231e43549b8b8ca0d76d0e2f455f11305df", checked := Try.checked }
namespace Rows
def none {H : Type} : Left H := { results := [], args := [] }

/-- 'zzlaws_root_b1.FnHoldsShiftAndMonotone': WHATEVER THE INPUT: true; the input reads as it did. -/
def fnHoldsShiftAndMonotoneSpec : ChangeSpec := { name := "fnHoldsShiftAndMonotone", fn := fun _ => fun
  | [d1, d2, d3, d4, d5] => { results := [.lit (.bool true)], args := [d1, d2, d3, d4, d5] }
  | _ => none }
def fnHoldsShiftAndMonotoneRow : OpenClaim := { program := "qxb6609300a", sum := "d3794efdc6d0161849a059f11ff0f231e43549b8b8ca0d76d0e2f455f11305df", func := "example.com/sluice/sluice/zzlaws_root_b1.FnHoldsShiftAndMonotone", spec := "fnHoldsShiftAndMonotone", apart := false }
def FnHoldsShiftAndMonotoneSaid : Prop := fnHoldsShiftAndMonotoneRow.holds Try.pinned (OpenSpec.ofChange fnHoldsShiftAndMonotoneSpec)

/-- ITS FALSE NEIGHBOUR: 'it returns false'. Refute it at one input. -/
def fnHoldsShiftAndMonotoneWrong : ChangeSpec := { name := "fnHoldsShiftAndMonotone", fn := fun _ => fun
  | [d1, d2, d3, d4, d5] => { results := [.lit (.bool false)], args := [d1, d2, d3, d4, d5] }
  | _ => none }
def FnHoldsShiftAndMonotoneWrongFalsely : Prop := fnHoldsShiftAndMonotoneRow.holds Try.pinned (OpenSpec.ofChange fnHoldsShiftAndMonotoneWrong)

end Rows
end Go.Proofs.Qxb6609300a
