/-
  No cell of these rows narrows 'for every input' (looked for: loops, veiled, ifaces, maps, wideKeys, modest, calm, conditions, laid).
  DERIVED. THE GIVEN ROWS OF THIS SEAT. 5 by the template 'for every input the law returns true; each argument reads behind the call as it read before'; 0 by the template 'total and deterministic' (their statements: Qxb6600157aTotals.lean).
  GIVEN WITH THE SEED: the statements are not yours to turn. If you find one false, say at which input.
  Laid BY PROGRAM, IN A SANDBOX (cutbox-rows.mjs): the forced cells as the released guide's own fill.sh prints them over the translation 53802cfb738c3bd2… (all of the seat's roots in one cut). By AI agents, Wed Nov 11 2026. No macro, syntax, notation, axiom, sorry.
-/
import Derived.Test.Qxb6600157aChecked
import GoSem.Claim
import GoSem.ClaimJoined
import GoSem.ClaimMapViews
import Derived.JoinedTies
import Derived.KernelRfl
namespace Go.Proofs.Qxb6600157a
/- THE CELL 'sum', in the pinned program and in every row, IS THE sha256 OF THE DUMP (.gsa) THAT Qxb6600157aProg.lean LOADS. Nothing in Lean hashes anything: it is a label: what it is worth is what the hold of that sum in a sandbox is worth. -/
noncomputable def Try.pinned : Pinned := { name := "qxb6600157a", sum := "53802cfb738c3bd2cc941b2b93dd91c4832862f232bee8712eb23942f6fb37bc", checked := Try.checked }
namespace Rows
def none {H : Type} : Left H := { results := [], args := [] }

/-- 'zzlaws_internal_flat_b1.FnSparsestUnmovedByLargeSegment': WHATEVER THE INPUT: true; the input reads as it did. -/
def fnSparsestUnmovedByLargeSegmentSpec : ChangeSpec := { name := "fnSparsestUnmovedByLargeSegment", fn := fun _ => fun
  | [d1, d2, d3, d4, d5, d6] => { results := [.lit (.bool true)], args := [d1, d2, d3, d4, d5, d6] }
  | _ => none }
def fnSparsestUnmovedByLargeSegmentRow : OpenClaim := { program := "qxb6600157a", sum := "53802cfb738c3bd2cc941b2b93dd91c4832862f232bee8712eb23942f6fb37bc", func := "example.com/twofold/twofold/zzlaws_internal_flat_b1.FnSparsestUnmovedByLargeSegment", spec := "fnSparsestUnmovedByLargeSegment", apart := false }
def FnSparsestUnmovedByLargeSegmentSaid : Prop := fnSparsestUnmovedByLargeSegmentRow.holds Try.pinned (OpenSpec.ofChange fnSparsestUnmovedByLargeSegmentSpec)

/-- ITS FALSE NEIGHBOUR: 'it returns false'. Refute it at one input. -/
def fnSparsestUnmovedByLargeSegmentWrong : ChangeSpec := { name := "fnSparsestUnmovedByLargeSegment", fn := fun _ => fun
  | [d1, d2, d3, d4, d5, d6] => { results := [.lit (.bool false)], args := [d1, d2, d3, d4, d5, d6] }
  | _ => none }
def FnSparsestUnmovedByLargeSegmentWrongFalsely : Prop := fnSparsestUnmovedByLargeSegmentRow.holds Try.pinned (OpenSpec.ofChange fnSparsestUnmovedByLargeSegmentWrong)

/-- 'zzlaws_internal_flat_b1.FnSparsestFindsFreshSmallSegment': WHATEVER THE INPUT: true; the input reads as it did. -/
def fnSparsestFindsFreshSmallSegmentSpec : ChangeSpec := { name := "fnSparsestFindsFreshSmallSegment", fn := fun _ => fun
  | [d1, d2, d3, d4, d5, d6] => { results := [.lit (.bool true)], args := [d1, d2, d3, d4, d5, d6] }
  | _ => none }
def fnSparsestFindsFreshSmallSegmentRow : OpenClaim := { program := "qxb6600157a", sum := "53802cfb738c3bd2cc941b2b93dd91c4832862f232bee8712eb23942f6fb37bc", func := "example.com/twofold/twofold/zzlaws_internal_flat_b1.FnSparsestFindsFreshSmallSegment", spec := "fnSparsestFindsFreshSmallSegment", apart := false }
def FnSparsestFindsFreshSmallSegmentSaid : Prop := fnSparsestFindsFreshSmallSegmentRow.holds Try.pinned (OpenSpec.ofChange fnSparsestFindsFreshSmallSegmentSpec)

/-- ITS FALSE NEIGHBOUR: 'it returns false'. Refute it at one input. -/
def fnSparsestFindsFreshSmallSegmentWrong : ChangeSpec := { name := "fnSparsestFindsFreshSmallSegment", fn := fun _ => fun
  | [d1, d2, d3, d4, d5, d6] => { results := [.lit (.bool false)], args := [d1, d2, d3, d4, d5, d6] }
  | _ => none }
def FnSparsestFindsFreshSmallSegmentWrongFalsely : Prop := fnSparsestFindsFreshSmallSegmentRow.holds Try.pinned (OpenSpec.ofChange fnSparsestFindsFreshSmallSegmentWrong)

/-- 'zzlaws_internal_flat_b1.FnNewSegmentUsesIdleLastFirstThenAppends': WHATEVER THE INPUT: true; the input reads as it did. -/
def fnNewSegmentUsesIdleLastFirstThenAppendsSpec : ChangeSpec := { name := "fnNewSegmentUsesIdleLastFirstThenAppends", fn := fun _ => fun
  | [d1, d2, d3, d4] => { results := [.lit (.bool true)], args := [d1, d2, d3, d4] }
  | _ => none }
def fnNewSegmentUsesIdleLastFirstThenAppendsRow : OpenClaim := { program := "qxb6600157a", sum := "53802cfb738c3bd2cc941b2b93dd91c4832862f232bee8712eb23942f6fb37bc", func := "example.com/twofold/twofold/zzlaws_internal_flat_b1.FnNewSegmentUsesIdleLastFirstThenAppends", spec := "fnNewSegmentUsesIdleLastFirstThenAppends", apart := false }
def FnNewSegmentUsesIdleLastFirstThenAppendsSaid : Prop := fnNewSegmentUsesIdleLastFirstThenAppendsRow.holds Try.pinned (OpenSpec.ofChange fnNewSegmentUsesIdleLastFirstThenAppendsSpec)

/-- ITS FALSE NEIGHBOUR: 'it returns false'. Refute it at one input. -/
def fnNewSegmentUsesIdleLastFirstThenAppendsWrong : ChangeSpec := { name := "fnNewSegmentUsesIdleLastFirstThenAppends", fn := fun _ => fun
  | [d1, d2, d3, d4] => { results := [.lit (.bool false)], args := [d1, d2, d3, d4] }
  | _ => none }
def FnNewSegmentUsesIdleLastFirstThenAppendsWrongFalsely : Prop := fnNewSegmentUsesIdleLastFirstThenAppendsRow.holds Try.pinned (OpenSpec.ofChange fnNewSegmentUsesIdleLastFirstThenAppendsWrong)

/-- 'zzlaws_internal_flat_b1.FnNextSizeBounds': WHATEVER THE INPUT: true; the input reads as it did. -/
def fnNextSizeBoundsSpec : ChangeSpec := { name := "fnNextSizeBounds", fn := fun _ => fun
  | [d] => { results := [.lit (.bool true)], args := [d] }
  | _ => none }
def fnNextSizeBoundsRow : OpenClaim := { program := "qxb6600157a", sum := "53802cfb738c3bd2cc941b2b93dd91c4832862f232bee8712eb23942f6fb37bc", func := "example.com/twofold/twofold/zzlaws_internal_flat_b1.FnNextSizeBounds", spec := "fnNextSizeBounds", apart := false }
def FnNextSizeBoundsSaid : Prop := fnNextSizeBoundsRow.holds Try.pinned (OpenSpec.ofChange fnNextSizeBoundsSpec)

/-- ITS FALSE NEIGHBOUR: 'it returns false'. Refute it at one input. -/
def fnNextSizeBoundsWrong : ChangeSpec := { name := "fnNextSizeBounds", fn := fun _ => fun
  | [d] => { results := [.lit (.bool false)], args := [d] }
  | _ => none }
def FnNextSizeBoundsWrongFalsely : Prop := fnNextSizeBoundsRow.holds Try.pinned (OpenSpec.ofChange fnNextSizeBoundsWrong)

/-- 'zzlaws_internal_flat_b1.FnNextSizeIsLargerOfDoubledAndFit': WHATEVER THE INPUT: true; the input reads as it did. -/
def fnNextSizeIsLargerOfDoubledAndFitSpec : ChangeSpec := { name := "fnNextSizeIsLargerOfDoubledAndFit", fn := fun _ => fun
  | [d] => { results := [.lit (.bool true)], args := [d] }
  | _ => none }
def fnNextSizeIsLargerOfDoubledAndFitRow : OpenClaim := { program := "qxb6600157a", sum := "53802cfb738c3bd2cc941b2b93dd91c4832862f232bee8712eb23942f6fb37bc", func := "example.com/twofold/twofold/zzlaws_internal_flat_b1.FnNextSizeIsLargerOfDoubledAndFit", spec := "fnNextSizeIsLargerOfDoubledAndFit", apart := false }
def FnNextSizeIsLargerOfDoubledAndFitSaid : Prop := fnNextSizeIsLargerOfDoubledAndFitRow.holds Try.pinned (OpenSpec.ofChange fnNextSizeIsLargerOfDoubledAndFitSpec)

/-- ITS FALSE NEIGHBOUR: 'it returns false'. Refute it at one input. -/
def fnNextSizeIsLargerOfDoubledAndFitWrong : ChangeSpec := { name := "fnNextSizeIsLargerOfDoubledAndFit", fn := fun _ => fun
  | [d] => { results := [.lit (.bool false)], args := [d] }
  | _ => none }
def FnNextSizeIsLargerOfDoubledAndFitWrongFalsely : Prop := fnNextSizeIsLargerOfDoubledAndFitRow.holds Try.pinned (OpenSpec.ofChange fnNextSizeIsLargerOfDoubledAndFitWrong)

end Rows
end Go.Proofs.Qxb6600157a
