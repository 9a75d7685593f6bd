/-
  No cell of these rows narrows 'for every input' (looked for: loops, veiled, ifaces, maps, wideKeys, modest, calm, conditions, laid).
  DERIVED. THE GIVEN ROWS OF THIS SEAT. 5 by the template 'for every input the law returns true; each argument reads behind the call as it read before'; 0 by the template 'total and deterministic' (their statements: Qxb6600092aTotals.lean).
  GIVEN WITH THE SEED: the statements are not yours to turn. If you find one false, say at which input.
  Laid BY PROGRAM, IN A SANDBOX (cutbox-rows.mjs): the forced cells as the released guide's own fill.sh prints them over the translation 4c3f5a2c810f22af… (all of the seat's roots in one cut). By AI agents, Wed Nov 11 2026. No macro, syntax, notation, axiom, sorry.
-/
import Derived.Test.Qxb6600092aChecked
import GoSem.Claim
import GoSem.ClaimJoined
import GoSem.ClaimMapViews
import Derived.JoinedTies
import Derived.KernelRfl
namespace Go.Proofs.Qxb6600092a
/- THE CELL 'sum', in the pinned program and in every row, IS THE sha256 OF THE DUMP (.gsa) THAT Qxb6600092aProg.lean LOADS. Nothing in Lean hashes anything: it is a label: what it is worth is what the hold of that sum in a sandbox is worth. -/
noncomputable def Try.pinned : Pinned := { name := "qxb6600092a", sum := "4c3f5a2c810f22af36b36b9627200722b66e4ac5f3d9657b6b488c2e2c9b02e6", checked := Try.checked }
namespace Rows
def none {H : Type} : Left H := { results := [], args := [] }

/-- 'zzlaws_internal_schema_b1.FnConversionFromIsLastPlaceOfEachID': WHATEVER THE INPUT: true; the input reads as it did. -/
def fnConversionFromIsLastPlaceOfEachIDSpec : ChangeSpec := { name := "fnConversionFromIsLastPlaceOfEachID", fn := fun _ => fun
  | [d1, d2] => { results := [.lit (.bool true)], args := [d1, d2] }
  | _ => none }
def fnConversionFromIsLastPlaceOfEachIDRow : OpenClaim := { program := "qxb6600092a", sum := "4c3f5a2c810f22af36b36b9627200722b66e4ac5f3d9657b6b488c2e2c9b02e6", func := "example.com/isochron/isochron/zzlaws_internal_schema_b1.FnConversionFromIsLastPlaceOfEachID", spec := "fnConversionFromIsLastPlaceOfEachID", apart := false }
def FnConversionFromIsLastPlaceOfEachIDSaid : Prop := fnConversionFromIsLastPlaceOfEachIDRow.holds Try.pinned (OpenSpec.ofChange fnConversionFromIsLastPlaceOfEachIDSpec)

/-- ITS FALSE NEIGHBOUR: 'it returns false'. Refute it at one input. -/
def fnConversionFromIsLastPlaceOfEachIDWrong : ChangeSpec := { name := "fnConversionFromIsLastPlaceOfEachID", fn := fun _ => fun
  | [d1, d2] => { results := [.lit (.bool false)], args := [d1, d2] }
  | _ => none }
def FnConversionFromIsLastPlaceOfEachIDWrongFalsely : Prop := fnConversionFromIsLastPlaceOfEachIDRow.holds Try.pinned (OpenSpec.ofChange fnConversionFromIsLastPlaceOfEachIDWrong)

/-- 'zzlaws_internal_schema_b1.FnConversionFromInvertsBetweenVersions': WHATEVER THE INPUT: true; the input reads as it did. -/
def fnConversionFromInvertsBetweenVersionsSpec : ChangeSpec := { name := "fnConversionFromInvertsBetweenVersions", fn := fun _ => fun
  | [d1, d2] => { results := [.lit (.bool true)], args := [d1, d2] }
  | _ => none }
def fnConversionFromInvertsBetweenVersionsRow : OpenClaim := { program := "qxb6600092a", sum := "4c3f5a2c810f22af36b36b9627200722b66e4ac5f3d9657b6b488c2e2c9b02e6", func := "example.com/isochron/isochron/zzlaws_internal_schema_b1.FnConversionFromInvertsBetweenVersions", spec := "fnConversionFromInvertsBetweenVersions", apart := false }
def FnConversionFromInvertsBetweenVersionsSaid : Prop := fnConversionFromInvertsBetweenVersionsRow.holds Try.pinned (OpenSpec.ofChange fnConversionFromInvertsBetweenVersionsSpec)

/-- ITS FALSE NEIGHBOUR: 'it returns false'. Refute it at one input. -/
def fnConversionFromInvertsBetweenVersionsWrong : ChangeSpec := { name := "fnConversionFromInvertsBetweenVersions", fn := fun _ => fun
  | [d1, d2] => { results := [.lit (.bool false)], args := [d1, d2] }
  | _ => none }
def FnConversionFromInvertsBetweenVersionsWrongFalsely : Prop := fnConversionFromInvertsBetweenVersionsRow.holds Try.pinned (OpenSpec.ofChange fnConversionFromInvertsBetweenVersionsWrong)

/-- 'zzlaws_internal_schema_b1.FnConversionFromComposesThroughKeptColumn': WHATEVER THE INPUT: true; the input reads as it did. -/
def fnConversionFromComposesThroughKeptColumnSpec : ChangeSpec := { name := "fnConversionFromComposesThroughKeptColumn", fn := fun _ => fun
  | [d1, d2, d3] => { results := [.lit (.bool true)], args := [d1, d2, d3] }
  | _ => none }
def fnConversionFromComposesThroughKeptColumnRow : OpenClaim := { program := "qxb6600092a", sum := "4c3f5a2c810f22af36b36b9627200722b66e4ac5f3d9657b6b488c2e2c9b02e6", func := "example.com/isochron/isochron/zzlaws_internal_schema_b1.FnConversionFromComposesThroughKeptColumn", spec := "fnConversionFromComposesThroughKeptColumn", apart := false }
def FnConversionFromComposesThroughKeptColumnSaid : Prop := fnConversionFromComposesThroughKeptColumnRow.holds Try.pinned (OpenSpec.ofChange fnConversionFromComposesThroughKeptColumnSpec)

/-- ITS FALSE NEIGHBOUR: 'it returns false'. Refute it at one input. -/
def fnConversionFromComposesThroughKeptColumnWrong : ChangeSpec := { name := "fnConversionFromComposesThroughKeptColumn", fn := fun _ => fun
  | [d1, d2, d3] => { results := [.lit (.bool false)], args := [d1, d2, d3] }
  | _ => none }
def FnConversionFromComposesThroughKeptColumnWrongFalsely : Prop := fnConversionFromComposesThroughKeptColumnRow.holds Try.pinned (OpenSpec.ofChange fnConversionFromComposesThroughKeptColumnWrong)

/-- 'zzlaws_internal_schema_b1.FnDDLParsesBackToIndex': WHATEVER THE INPUT: true; the input reads as it did. -/
def fnDDLParsesBackToIndexSpec : ChangeSpec := { name := "fnDDLParsesBackToIndex", fn := fun _ => fun
  | [d1, d2, d3, d4, d5, d6, d7] => { results := [.lit (.bool true)], args := [d1, d2, d3, d4, d5, d6, d7] }
  | _ => none }
def fnDDLParsesBackToIndexRow : OpenClaim := { program := "qxb6600092a", sum := "4c3f5a2c810f22af36b36b9627200722b66e4ac5f3d9657b6b488c2e2c9b02e6", func := "example.com/isochron/isochron/zzlaws_internal_schema_b1.FnDDLParsesBackToIndex", spec := "fnDDLParsesBackToIndex", inPlace := ["internal/abi.NoEscape"], apart := false }
def FnDDLParsesBackToIndexSaid : Prop := fnDDLParsesBackToIndexRow.holds Try.pinned (OpenSpec.ofChange fnDDLParsesBackToIndexSpec)

/-- ITS FALSE NEIGHBOUR: 'it returns false'. Refute it at one input. -/
def fnDDLParsesBackToIndexWrong : ChangeSpec := { name := "fnDDLParsesBackToIndex", fn := fun _ => fun
  | [d1, d2, d3, d4, d5, d6, d7] => { results := [.lit (.bool false)], args := [d1, d2, d3, d4, d5, d6, d7] }
  | _ => none }
def FnDDLParsesBackToIndexWrongFalsely : Prop := fnDDLParsesBackToIndexRow.holds Try.pinned (OpenSpec.ofChange fnDDLParsesBackToIndexWrong)

/-- 'zzlaws_internal_schema_b1.FnDDLStoringOnlyAppends': WHATEVER THE INPUT: true; the input reads as it did. -/
def fnDDLStoringOnlyAppendsSpec : ChangeSpec := { name := "fnDDLStoringOnlyAppends", fn := fun _ => fun
  | [d1, d2, d3, d4, d5, d6, d7] => { results := [.lit (.bool true)], args := [d1, d2, d3, d4, d5, d6, d7] }
  | _ => none }
def fnDDLStoringOnlyAppendsRow : OpenClaim := { program := "qxb6600092a", sum := "4c3f5a2c810f22af36b36b9627200722b66e4ac5f3d9657b6b488c2e2c9b02e6", func := "example.com/isochron/isochron/zzlaws_internal_schema_b1.FnDDLStoringOnlyAppends", spec := "fnDDLStoringOnlyAppends", inPlace := ["internal/abi.NoEscape"], apart := false }
def FnDDLStoringOnlyAppendsSaid : Prop := fnDDLStoringOnlyAppendsRow.holds Try.pinned (OpenSpec.ofChange fnDDLStoringOnlyAppendsSpec)

/-- ITS FALSE NEIGHBOUR: 'it returns false'. Refute it at one input. -/
def fnDDLStoringOnlyAppendsWrong : ChangeSpec := { name := "fnDDLStoringOnlyAppends", fn := fun _ => fun
  | [d1, d2, d3, d4, d5, d6, d7] => { results := [.lit (.bool false)], args := [d1, d2, d3, d4, d5, d6, d7] }
  | _ => none }
def FnDDLStoringOnlyAppendsWrongFalsely : Prop := fnDDLStoringOnlyAppendsRow.holds Try.pinned (OpenSpec.ofChange fnDDLStoringOnlyAppendsWrong)

end Rows
end Go.Proofs.Qxb6600092a
