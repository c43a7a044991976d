/-
  No cell of these rows narrows 'for every input' (looked for: loops, veiled, ifaces, maps, wideKeys, modest, calm, conditions, laid).
  DERIVED. THE GIVEN ROWS OF THIS SEAT. 4 by the template 'for every input the law returns true; each argument reads behind the call as it read before'; 0 by the template 'total and deterministic' (their statements: Qxb6003708aTotals.lean).
  GIVEN WITH THE SEED: the statements are not yours to turn. If you find one false, say at which input.
  Laid BY PROGRAM, IN A SANDBOX (cutbox-rows.mjs): the forced cells as the released guide's own fill.sh prints them over the translation 8b7cf5dd83d91fbb… (all of the seat's roots in one cut). By AI agents, Wed Nov 11 2026. No macro, syntax, notation, axiom, sorry.
-/
import Derived.Test.Qxb6003708aChecked
import GoSem.Claim
import GoSem.ClaimJoined
import GoSem.ClaimMapViews
import Derived.JoinedTies
import Derived.KernelRfl
namespace Go.Proofs.Qxb6003708a
/- THE CELL 'sum', in the pinned program and in every row, IS THE sha256 OF THE DUMP (.gsa) THAT Qxb6003708aProg.lean LOADS. Nothing in Lean hashes anything: it is a label: what it is worth is what the hold of that sum in a sandbox is worth. -/
noncomputable def Try.pinned : Pinned := { name := "qxb6003708a", sum := "8b7cf5dd83d91fbb516b0d190725180574ad790b83c51a17a3c5727f4aa54ef3", checked := Try.checked }
namespace Rows
def none {H : Type} : Left H := { results := [], args := [] }

/-- 'zzlaws_register_g1.FnPushCopyThenReadBack': WHATEVER THE INPUT: true; the input reads as it did. -/
def fnPushCopyThenReadBackSpec : ChangeSpec := { name := "fnPushCopyThenReadBack", fn := fun _ => fun
  | [d] => { results := [.lit (.bool true)], args := [d] }
  | _ => none }
def fnPushCopyThenReadBackRow : OpenClaim := { program := "qxb6003708a", sum := "8b7cf5dd83d91fbb516b0d190725180574ad790b83c51a17a3c5727f4aa54ef3", func := "example.com/zhaomu/zhaomu/zzlaws_register_g1.FnPushCopyThenReadBack", spec := "fnPushCopyThenReadBack", apart := false }
def FnPushCopyThenReadBackSaid : Prop := fnPushCopyThenReadBackRow.holds Try.pinned (OpenSpec.ofChange fnPushCopyThenReadBackSpec)

/-- ITS FALSE NEIGHBOUR: 'it returns false'. Refute it at one input. -/
def fnPushCopyThenReadBackWrong : ChangeSpec := { name := "fnPushCopyThenReadBack", fn := fun _ => fun
  | [d] => { results := [.lit (.bool false)], args := [d] }
  | _ => none }
def FnPushCopyThenReadBackWrongFalsely : Prop := fnPushCopyThenReadBackRow.holds Try.pinned (OpenSpec.ofChange fnPushCopyThenReadBackWrong)

/-- 'zzlaws_register_g1.FnPushAgreesWithPushCopy': WHATEVER THE INPUT: true; the input reads as it did. -/
def fnPushAgreesWithPushCopySpec : ChangeSpec := { name := "fnPushAgreesWithPushCopy", fn := fun _ => fun
  | [d] => { results := [.lit (.bool true)], args := [d] }
  | _ => none }
def fnPushAgreesWithPushCopyRow : OpenClaim := { program := "qxb6003708a", sum := "8b7cf5dd83d91fbb516b0d190725180574ad790b83c51a17a3c5727f4aa54ef3", func := "example.com/zhaomu/zhaomu/zzlaws_register_g1.FnPushAgreesWithPushCopy", spec := "fnPushAgreesWithPushCopy", inPlace := ["internal/bytealg.Compare"], apart := false }
def FnPushAgreesWithPushCopySaid : Prop := fnPushAgreesWithPushCopyRow.holds Try.pinned (OpenSpec.ofChange fnPushAgreesWithPushCopySpec)

/-- ITS FALSE NEIGHBOUR: 'it returns false'. Refute it at one input. -/
def fnPushAgreesWithPushCopyWrong : ChangeSpec := { name := "fnPushAgreesWithPushCopy", fn := fun _ => fun
  | [d] => { results := [.lit (.bool false)], args := [d] }
  | _ => none }
def FnPushAgreesWithPushCopyWrongFalsely : Prop := fnPushAgreesWithPushCopyRow.holds Try.pinned (OpenSpec.ofChange fnPushAgreesWithPushCopyWrong)

/-- 'zzlaws_register_g1.FnCompareOrdersByAccountClassDateID': WHATEVER THE INPUT: true; the input reads as it did. -/
def fnCompareOrdersByAccountClassDateIDSpec : ChangeSpec := { name := "fnCompareOrdersByAccountClassDateID", fn := fun _ => fun
  | [d1, d2, d3] => { results := [.lit (.bool true)], args := [d1, d2, d3] }
  | _ => none }
def fnCompareOrdersByAccountClassDateIDRow : OpenClaim := { program := "qxb6003708a", sum := "8b7cf5dd83d91fbb516b0d190725180574ad790b83c51a17a3c5727f4aa54ef3", func := "example.com/zhaomu/zhaomu/zzlaws_register_g1.FnCompareOrdersByAccountClassDateID", spec := "fnCompareOrdersByAccountClassDateID", inPlace := ["internal/bytealg.Compare"], apart := false }
def FnCompareOrdersByAccountClassDateIDSaid : Prop := fnCompareOrdersByAccountClassDateIDRow.holds Try.pinned (OpenSpec.ofChange fnCompareOrdersByAccountClassDateIDSpec)

/-- ITS FALSE NEIGHBOUR: 'it returns false'. Refute it at one input. -/
def fnCompareOrdersByAccountClassDateIDWrong : ChangeSpec := { name := "fnCompareOrdersByAccountClassDateID", fn := fun _ => fun
  | [d1, d2, d3] => { results := [.lit (.bool false)], args := [d1, d2, d3] }
  | _ => none }
def FnCompareOrdersByAccountClassDateIDWrongFalsely : Prop := fnCompareOrdersByAccountClassDateIDRow.holds Try.pinned (OpenSpec.ofChange fnCompareOrdersByAccountClassDateIDWrong)

/-- 'zzlaws_register_g1.FnIsLowerHexIsByteClass': WHATEVER THE INPUT: true; the input reads as it did. -/
def fnIsLowerHexIsByteClassSpec : ChangeSpec := { name := "fnIsLowerHexIsByteClass", fn := fun _ => fun
  | [d1, d2] => { results := [.lit (.bool true)], args := [d1, d2] }
  | _ => none }
def fnIsLowerHexIsByteClassRow : OpenClaim := { program := "qxb6003708a", sum := "8b7cf5dd83d91fbb516b0d190725180574ad790b83c51a17a3c5727f4aa54ef3", func := "example.com/zhaomu/zhaomu/zzlaws_register_g1.FnIsLowerHexIsByteClass", spec := "fnIsLowerHexIsByteClass", apart := false }
def FnIsLowerHexIsByteClassSaid : Prop := fnIsLowerHexIsByteClassRow.holds Try.pinned (OpenSpec.ofChange fnIsLowerHexIsByteClassSpec)

/-- ITS FALSE NEIGHBOUR: 'it returns false'. Refute it at one input. -/
def fnIsLowerHexIsByteClassWrong : ChangeSpec := { name := "fnIsLowerHexIsByteClass", fn := fun _ => fun
  | [d1, d2] => { results := [.lit (.bool false)], args := [d1, d2] }
  | _ => none }
def FnIsLowerHexIsByteClassWrongFalsely : Prop := fnIsLowerHexIsByteClassRow.holds Try.pinned (OpenSpec.ofChange fnIsLowerHexIsByteClassWrong)

end Rows
end Go.Proofs.Qxb6003708a
