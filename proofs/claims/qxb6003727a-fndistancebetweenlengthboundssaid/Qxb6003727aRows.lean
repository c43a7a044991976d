/-
  No cell of these rows narrows 'for every input' (looked for: loops, veiled, ifaces, maps, wideKeys, modest, calm, conditions, laid).
  DERIVED. THE GIVEN ROWS OF THIS SEAT. 4 by the template 'for every input the law returns true; each argument reads behind the call as it read before'; 0 by the template 'total and deterministic' (their statements: Qxb6003727aTotals.lean).
  GIVEN WITH THE SEED: the statements are not yours to turn. If you find one false, say at which input.
  Laid BY PROGRAM, IN A SANDBOX (cutbox-rows.mjs): the forced cells as the released guide's own fill.sh prints them over the translation 1bc6d883f664d11c… (all of the seat's roots in one cut). By AI agents, Wed Nov 11 2026. No macro, syntax, notation, axiom, sorry.
-/
import Derived.Test.Qxb6003727aChecked
import GoSem.Claim
import GoSem.ClaimJoined
import GoSem.ClaimMapViews
import Derived.JoinedTies
import Derived.KernelRfl
namespace Go.Proofs.Qxb6003727a
/- THE CELL 'sum', in the pinned program and in every row, IS THE sha256 OF THE DUMP (.gsa) THAT Qxb6003727aProg.lean LOADS. Nothing in Lean hashes anything: it is a label: what it is worth is what the hold of that sum in a sandbox is worth. -/
noncomputable def Try.pinned : Pinned := { name := "qxb6003727a", sum := "1bc6d883f664d11c859cc7ec72c43bbe38619ccfff69adbea8344cfd6077bd6c", checked := Try.checked }
namespace Rows
def none {H : Type} : Left H := { results := [], args := [] }

/-- 'zzlaws_internal_cli_g1.FnDistanceIsAMetric': WHATEVER THE INPUT: true; the input reads as it did. -/
def fnDistanceIsAMetricSpec : ChangeSpec := { name := "fnDistanceIsAMetric", fn := fun _ => fun
  | [d1, d2, d3] => { results := [.lit (.bool true)], args := [d1, d2, d3] }
  | _ => none }
def fnDistanceIsAMetricRow : OpenClaim := { program := "qxb6003727a", sum := "1bc6d883f664d11c859cc7ec72c43bbe38619ccfff69adbea8344cfd6077bd6c", func := "example.com/cairn/cairn/zzlaws_internal_cli_g1.FnDistanceIsAMetric", spec := "fnDistanceIsAMetric", apart := false }
def FnDistanceIsAMetricSaid : Prop := fnDistanceIsAMetricRow.holds Try.pinned (OpenSpec.ofChange fnDistanceIsAMetricSpec)

/-- ITS FALSE NEIGHBOUR: 'it returns false'. Refute it at one input. -/
def fnDistanceIsAMetricWrong : ChangeSpec := { name := "fnDistanceIsAMetric", fn := fun _ => fun
  | [d1, d2, d3] => { results := [.lit (.bool false)], args := [d1, d2, d3] }
  | _ => none }
def FnDistanceIsAMetricWrongFalsely : Prop := fnDistanceIsAMetricRow.holds Try.pinned (OpenSpec.ofChange fnDistanceIsAMetricWrong)

/-- 'zzlaws_internal_cli_g1.FnDistanceBetweenLengthBounds': WHATEVER THE INPUT: true; the input reads as it did. -/
def fnDistanceBetweenLengthBoundsSpec : ChangeSpec := { name := "fnDistanceBetweenLengthBounds", fn := fun _ => fun
  | [d1, d2] => { results := [.lit (.bool true)], args := [d1, d2] }
  | _ => none }
def fnDistanceBetweenLengthBoundsRow : OpenClaim := { program := "qxb6003727a", sum := "1bc6d883f664d11c859cc7ec72c43bbe38619ccfff69adbea8344cfd6077bd6c", func := "example.com/cairn/cairn/zzlaws_internal_cli_g1.FnDistanceBetweenLengthBounds", spec := "fnDistanceBetweenLengthBounds", apart := false }
def FnDistanceBetweenLengthBoundsSaid : Prop := fnDistanceBetweenLengthBoundsRow.holds Try.pinned (OpenSpec.ofChange fnDistanceBetweenLengthBoundsSpec)

/-- ITS FALSE NEIGHBOUR: 'it returns false'. Refute it at one input. -/
def fnDistanceBetweenLengthBoundsWrong : ChangeSpec := { name := "fnDistanceBetweenLengthBounds", fn := fun _ => fun
  | [d1, d2] => { results := [.lit (.bool false)], args := [d1, d2] }
  | _ => none }
def FnDistanceBetweenLengthBoundsWrongFalsely : Prop := fnDistanceBetweenLengthBoundsRow.holds Try.pinned (OpenSpec.ofChange fnDistanceBetweenLengthBoundsWrong)

/-- 'zzlaws_internal_cli_g1.FnDistanceAgreesWithRecursiveDefinition': WHATEVER THE INPUT: true; the input reads as it did. -/
def fnDistanceAgreesWithRecursiveDefinitionSpec : ChangeSpec := { name := "fnDistanceAgreesWithRecursiveDefinition", fn := fun _ => fun
  | [d1, d2] => { results := [.lit (.bool true)], args := [d1, d2] }
  | _ => none }
def fnDistanceAgreesWithRecursiveDefinitionRow : OpenClaim := { program := "qxb6003727a", sum := "1bc6d883f664d11c859cc7ec72c43bbe38619ccfff69adbea8344cfd6077bd6c", func := "example.com/cairn/cairn/zzlaws_internal_cli_g1.FnDistanceAgreesWithRecursiveDefinition", spec := "fnDistanceAgreesWithRecursiveDefinition", recurses := true, apart := false }
def FnDistanceAgreesWithRecursiveDefinitionSaid : Prop := fnDistanceAgreesWithRecursiveDefinitionRow.holds Try.pinned (OpenSpec.ofChange fnDistanceAgreesWithRecursiveDefinitionSpec)

/-- ITS FALSE NEIGHBOUR: 'it returns false'. Refute it at one input. -/
def fnDistanceAgreesWithRecursiveDefinitionWrong : ChangeSpec := { name := "fnDistanceAgreesWithRecursiveDefinition", fn := fun _ => fun
  | [d1, d2] => { results := [.lit (.bool false)], args := [d1, d2] }
  | _ => none }
def FnDistanceAgreesWithRecursiveDefinitionWrongFalsely : Prop := fnDistanceAgreesWithRecursiveDefinitionRow.holds Try.pinned (OpenSpec.ofChange fnDistanceAgreesWithRecursiveDefinitionWrong)

/-- 'zzlaws_internal_cli_g1.FnDistanceIgnoresCommonAffixes': WHATEVER THE INPUT: true; the input reads as it did. -/
def fnDistanceIgnoresCommonAffixesSpec : ChangeSpec := { name := "fnDistanceIgnoresCommonAffixes", fn := fun _ => fun
  | [d1, d2, d3, d4] => { results := [.lit (.bool true)], args := [d1, d2, d3, d4] }
  | _ => none }
def fnDistanceIgnoresCommonAffixesRow : OpenClaim := { program := "qxb6003727a", sum := "1bc6d883f664d11c859cc7ec72c43bbe38619ccfff69adbea8344cfd6077bd6c", func := "example.com/cairn/cairn/zzlaws_internal_cli_g1.FnDistanceIgnoresCommonAffixes", spec := "fnDistanceIgnoresCommonAffixes", apart := false }
def FnDistanceIgnoresCommonAffixesSaid : Prop := fnDistanceIgnoresCommonAffixesRow.holds Try.pinned (OpenSpec.ofChange fnDistanceIgnoresCommonAffixesSpec)

/-- ITS FALSE NEIGHBOUR: 'it returns false'. Refute it at one input. -/
def fnDistanceIgnoresCommonAffixesWrong : ChangeSpec := { name := "fnDistanceIgnoresCommonAffixes", fn := fun _ => fun
  | [d1, d2, d3, d4] => { results := [.lit (.bool false)], args := [d1, d2, d3, d4] }
  | _ => none }
def FnDistanceIgnoresCommonAffixesWrongFalsely : Prop := fnDistanceIgnoresCommonAffixesRow.holds Try.pinned (OpenSpec.ofChange fnDistanceIgnoresCommonAffixesWrong)

end Rows
end Go.Proofs.Qxb6003727a
