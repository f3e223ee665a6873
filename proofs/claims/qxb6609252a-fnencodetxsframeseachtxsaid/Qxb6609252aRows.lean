/-
  No cell of these rows narrows 'for every input' (looked for: loops, veiled, ifaces, maps, wideKeys, modest, calm, conditions, laid).
  DERIVED. THE GIVEN ROWS OF THIS SEAT. 4 by the template 'for every input the law returns true; each argument reads behind the call as it read before'; 0 by the template 'total and deterministic' (their statements: Qxb6609252aTotals.lean).
  GIVEN WITH THE SEED: the statements are not yours to turn. If you find one false, say at which input.
  Laid BY PROGRAM, IN A SANDBOX (cutbox-rows.mjs): the forced cells as the released guide's own fill.sh prints them over the translation b2ad6514095884eb… (all of the seat's roots in one cut). By AI agents, Wed Nov 11 2026. No macro, syntax, notation, axiom, sorry.
-/
import Derived.Test.Qxb6609252aChecked
import GoSem.Claim
import GoSem.ClaimJoined
import GoSem.ClaimMapViews
import Derived.JoinedTies
import Derived.KernelRfl
namespace Go.Proofs.Qxb6609252a
/- THE CELL 'sum', in the pinned program and in every row, IS THE sha256 OF THE DUMP (.gsa) THAT Qxb6609252aProg.lean LOADS. Nothing in Lean hashes anything: it is a label: what it is worth is what the hold of that sum in a sandbox is worth. -/
noncomputable def Try.pinned : Pinned := { name := "qxb6609252a", sum := "b2ad6514095884ebeb5f2745d3023fc78d44f70a46b7dc67df85013c4cce737f", checked := Try.checked }
namespace Rows
def none {H : Type} : Left H := { results := [], args := [] }

/-- 'zzlaws_internal_chain_b1.FnHashMarshalTextReadsBack': WHATEVER THE INPUT: true; the input reads as it did. -/
def fnHashMarshalTextReadsBackSpec : ChangeSpec := { name := "fnHashMarshalTextReadsBack", fn := fun _ => fun
  | [d] => { results := [.lit (.bool true)], args := [d] }
  | _ => none }
def fnHashMarshalTextReadsBackRow : OpenClaim := { program := "qxb6609252a", sum := "b2ad6514095884ebeb5f2745d3023fc78d44f70a46b7dc67df85013c4cce737f", func := "example.com/ledgerhall/ledgerhall/zzlaws_internal_chain_b1.FnHashMarshalTextReadsBack", spec := "fnHashMarshalTextReadsBack", apart := false }
def FnHashMarshalTextReadsBackSaid : Prop := fnHashMarshalTextReadsBackRow.holds Try.pinned (OpenSpec.ofChange fnHashMarshalTextReadsBackSpec)

/-- ITS FALSE NEIGHBOUR: 'it returns false'. Refute it at one input. -/
def fnHashMarshalTextReadsBackWrong : ChangeSpec := { name := "fnHashMarshalTextReadsBack", fn := fun _ => fun
  | [d] => { results := [.lit (.bool false)], args := [d] }
  | _ => none }
def FnHashMarshalTextReadsBackWrongFalsely : Prop := fnHashMarshalTextReadsBackRow.holds Try.pinned (OpenSpec.ofChange fnHashMarshalTextReadsBackWrong)

/-- 'zzlaws_internal_chain_b1.FnHashMarshalTextKeepsOrder': WHATEVER THE INPUT: true; the input reads as it did. -/
def fnHashMarshalTextKeepsOrderSpec : ChangeSpec := { name := "fnHashMarshalTextKeepsOrder", fn := fun _ => fun
  | [d1, d2] => { results := [.lit (.bool true)], args := [d1, d2] }
  | _ => none }
def fnHashMarshalTextKeepsOrderRow : OpenClaim := { program := "qxb6609252a", sum := "b2ad6514095884ebeb5f2745d3023fc78d44f70a46b7dc67df85013c4cce737f", func := "example.com/ledgerhall/ledgerhall/zzlaws_internal_chain_b1.FnHashMarshalTextKeepsOrder", spec := "fnHashMarshalTextKeepsOrder", apart := false }
def FnHashMarshalTextKeepsOrderSaid : Prop := fnHashMarshalTextKeepsOrderRow.holds Try.pinned (OpenSpec.ofChange fnHashMarshalTextKeepsOrderSpec)

/-- ITS FALSE NEIGHBOUR: 'it returns false'. Refute it at one input. -/
def fnHashMarshalTextKeepsOrderWrong : ChangeSpec := { name := "fnHashMarshalTextKeepsOrder", fn := fun _ => fun
  | [d1, d2] => { results := [.lit (.bool false)], args := [d1, d2] }
  | _ => none }
def FnHashMarshalTextKeepsOrderWrongFalsely : Prop := fnHashMarshalTextKeepsOrderRow.holds Try.pinned (OpenSpec.ofChange fnHashMarshalTextKeepsOrderWrong)

/-- 'zzlaws_internal_chain_b1.FnEncodeTxsFramesEachTx': WHATEVER THE INPUT: true; the input reads as it did. -/
def fnEncodeTxsFramesEachTxSpec : ChangeSpec := { name := "fnEncodeTxsFramesEachTx", fn := fun _ => fun
  | [d1, d2] => { results := [.lit (.bool true)], args := [d1, d2] }
  | _ => none }
def fnEncodeTxsFramesEachTxRow : OpenClaim := { program := "qxb6609252a", sum := "b2ad6514095884ebeb5f2745d3023fc78d44f70a46b7dc67df85013c4cce737f", func := "example.com/ledgerhall/ledgerhall/zzlaws_internal_chain_b1.FnEncodeTxsFramesEachTx", spec := "fnEncodeTxsFramesEachTx", named := ["encoding/binary.BigEndian"], apart := false }
def FnEncodeTxsFramesEachTxSaid : Prop := fnEncodeTxsFramesEachTxRow.holds Try.pinned (OpenSpec.ofChange fnEncodeTxsFramesEachTxSpec)

/-- ITS FALSE NEIGHBOUR: 'it returns false'. Refute it at one input. -/
def fnEncodeTxsFramesEachTxWrong : ChangeSpec := { name := "fnEncodeTxsFramesEachTx", fn := fun _ => fun
  | [d1, d2] => { results := [.lit (.bool false)], args := [d1, d2] }
  | _ => none }
def FnEncodeTxsFramesEachTxWrongFalsely : Prop := fnEncodeTxsFramesEachTxRow.holds Try.pinned (OpenSpec.ofChange fnEncodeTxsFramesEachTxWrong)

/-- 'zzlaws_internal_chain_b1.FnEncodeTxsTwoListsReadBack': WHATEVER THE INPUT: true; the input reads as it did. -/
def fnEncodeTxsTwoListsReadBackSpec : ChangeSpec := { name := "fnEncodeTxsTwoListsReadBack", fn := fun _ => fun
  | [d1, d2] => { results := [.lit (.bool true)], args := [d1, d2] }
  | _ => none }
def fnEncodeTxsTwoListsReadBackRow : OpenClaim := { program := "qxb6609252a", sum := "b2ad6514095884ebeb5f2745d3023fc78d44f70a46b7dc67df85013c4cce737f", func := "example.com/ledgerhall/ledgerhall/zzlaws_internal_chain_b1.FnEncodeTxsTwoListsReadBack", spec := "fnEncodeTxsTwoListsReadBack", named := ["encoding/binary.BigEndian"], apart := false }
def FnEncodeTxsTwoListsReadBackSaid : Prop := fnEncodeTxsTwoListsReadBackRow.holds Try.pinned (OpenSpec.ofChange fnEncodeTxsTwoListsReadBackSpec)

/-- ITS FALSE NEIGHBOUR: 'it returns false'. Refute it at one input. -/
def fnEncodeTxsTwoListsReadBackWrong : ChangeSpec := { name := "fnEncodeTxsTwoListsReadBack", fn := fun _ => fun
  | [d1, d2] => { results := [.lit (.bool false)], args := [d1, d2] }
  | _ => none }
def FnEncodeTxsTwoListsReadBackWrongFalsely : Prop := fnEncodeTxsTwoListsReadBackRow.holds Try.pinned (OpenSpec.ofChange fnEncodeTxsTwoListsReadBackWrong)

end Rows
end Go.Proofs.Qxb6609252a
