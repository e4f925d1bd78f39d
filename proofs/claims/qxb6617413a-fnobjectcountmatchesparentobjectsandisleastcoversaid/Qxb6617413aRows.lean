/-
  No cell of these rows narrows 'for every input' (looked for: loops, veiled, ifaces, maps, wideKeys, modest, calm, conditions, laid).
  DERIVED. THE GIVEN ROWS OF THIS SEAT. 5 by the template 'for every input the law returns true; each argument reads behind the call as it read before'; 0 by the template 'total and deterministic' (their statements: Qxb6617413aTotals.lean).
  GIVEN WITH THE SEED: the statements are not yours to turn. If you find one false, say at which input.
  Laid BY PROGRAM, IN A SANDBOX (cutbox-rows.mjs): the forced cells as the released guide's own fill.sh prints them over the translation 06eb0fe4a8be656b… (all of the seat's roots in one cut). By AI agents, Wed Nov 11 2026. No macro, syntax, notation, axiom, sorry.
-/
import Derived.Test.Qxb6617413aChecked
import GoSem.Claim
import GoSem.ClaimJoined
import GoSem.ClaimMapViews
import Derived.JoinedTies
import Derived.KernelRfl
namespace Go.Proofs.Qxb6617413a
/- THE CELL 'sum', in the pinned program and in every row, IS THE sha256 OF THE DUMP (.gsa) THAT Qxb6617413aProg.lean LOADS. Nothing in Lean hashes anything: it is a label: what it is worth is what the hold of that sum in a sandbox is worth. -/
noncomputable def Try.pinned : Pinned := { name := "qxb6617413a", sum := "06eb0fe4a8be656b9dd5d804c228a980a157998d3725e1c99a199027cf8f92fa", checked := Try.checked }
namespace Rows
def none {H : Type} : Left H := { results := [], args := [] }

/-- 'zzlaws_internal_pool_b1.FnObjectCountMatchesParentObjectsAndIsLeastCover': WHATEVER THE INPUT: true; the input reads as it did. -/
def fnObjectCountMatchesParentObjectsAndIsLeastCoverSpec : ChangeSpec := { name := "fnObjectCountMatchesParentObjectsAndIsLeastCover", fn := fun _ => fun
  | [d1, d2] => { results := [.lit (.bool true)], args := [d1, d2] }
  | _ => none }
def fnObjectCountMatchesParentObjectsAndIsLeastCoverRow : OpenClaim := { program := "qxb6617413a", sum := "06eb0fe4a8be656b9dd5d804c228a980a157998d3725e1c99a199027cf8f92fa", func := "example.com/strandline/strandline/zzlaws_internal_pool_b1.FnObjectCountMatchesParentObjectsAndIsLeastCover", spec := "fnObjectCountMatchesParentObjectsAndIsLeastCover", apart := false }
def FnObjectCountMatchesParentObjectsAndIsLeastCoverSaid : Prop := fnObjectCountMatchesParentObjectsAndIsLeastCoverRow.holds Try.pinned (OpenSpec.ofChange fnObjectCountMatchesParentObjectsAndIsLeastCoverSpec)

/-- ITS FALSE NEIGHBOUR: 'it returns false'. Refute it at one input. -/
def fnObjectCountMatchesParentObjectsAndIsLeastCoverWrong : ChangeSpec := { name := "fnObjectCountMatchesParentObjectsAndIsLeastCover", fn := fun _ => fun
  | [d1, d2] => { results := [.lit (.bool false)], args := [d1, d2] }
  | _ => none }
def FnObjectCountMatchesParentObjectsAndIsLeastCoverWrongFalsely : Prop := fnObjectCountMatchesParentObjectsAndIsLeastCoverRow.holds Try.pinned (OpenSpec.ofChange fnObjectCountMatchesParentObjectsAndIsLeastCoverWrong)

/-- 'zzlaws_internal_pool_b1.FnObjectCountGrowsByOneWithEachWholeObject': WHATEVER THE INPUT: true; the input reads as it did. -/
def fnObjectCountGrowsByOneWithEachWholeObjectSpec : ChangeSpec := { name := "fnObjectCountGrowsByOneWithEachWholeObject", fn := fun _ => fun
  | [d1, d2] => { results := [.lit (.bool true)], args := [d1, d2] }
  | _ => none }
def fnObjectCountGrowsByOneWithEachWholeObjectRow : OpenClaim := { program := "qxb6617413a", sum := "06eb0fe4a8be656b9dd5d804c228a980a157998d3725e1c99a199027cf8f92fa", func := "example.com/strandline/strandline/zzlaws_internal_pool_b1.FnObjectCountGrowsByOneWithEachWholeObject", spec := "fnObjectCountGrowsByOneWithEachWholeObject", apart := false }
def FnObjectCountGrowsByOneWithEachWholeObjectSaid : Prop := fnObjectCountGrowsByOneWithEachWholeObjectRow.holds Try.pinned (OpenSpec.ofChange fnObjectCountGrowsByOneWithEachWholeObjectSpec)

/-- ITS FALSE NEIGHBOUR: 'it returns false'. Refute it at one input. -/
def fnObjectCountGrowsByOneWithEachWholeObjectWrong : ChangeSpec := { name := "fnObjectCountGrowsByOneWithEachWholeObject", fn := fun _ => fun
  | [d1, d2] => { results := [.lit (.bool false)], args := [d1, d2] }
  | _ => none }
def FnObjectCountGrowsByOneWithEachWholeObjectWrongFalsely : Prop := fnObjectCountGrowsByOneWithEachWholeObjectRow.holds Try.pinned (OpenSpec.ofChange fnObjectCountGrowsByOneWithEachWholeObjectWrong)

/-- 'zzlaws_internal_pool_b1.FnParentObjectsAreThoseBeginningInOverlap': WHATEVER THE INPUT: true; the input reads as it did. -/
def fnParentObjectsAreThoseBeginningInOverlapSpec : ChangeSpec := { name := "fnParentObjectsAreThoseBeginningInOverlap", fn := fun _ => fun
  | [d1, d2, d3] => { results := [.lit (.bool true)], args := [d1, d2, d3] }
  | _ => none }
def fnParentObjectsAreThoseBeginningInOverlapRow : OpenClaim := { program := "qxb6617413a", sum := "06eb0fe4a8be656b9dd5d804c228a980a157998d3725e1c99a199027cf8f92fa", func := "example.com/strandline/strandline/zzlaws_internal_pool_b1.FnParentObjectsAreThoseBeginningInOverlap", spec := "fnParentObjectsAreThoseBeginningInOverlap", apart := false }
def FnParentObjectsAreThoseBeginningInOverlapSaid : Prop := fnParentObjectsAreThoseBeginningInOverlapRow.holds Try.pinned (OpenSpec.ofChange fnParentObjectsAreThoseBeginningInOverlapSpec)

/-- ITS FALSE NEIGHBOUR: 'it returns false'. Refute it at one input. -/
def fnParentObjectsAreThoseBeginningInOverlapWrong : ChangeSpec := { name := "fnParentObjectsAreThoseBeginningInOverlap", fn := fun _ => fun
  | [d1, d2, d3] => { results := [.lit (.bool false)], args := [d1, d2, d3] }
  | _ => none }
def FnParentObjectsAreThoseBeginningInOverlapWrongFalsely : Prop := fnParentObjectsAreThoseBeginningInOverlapRow.holds Try.pinned (OpenSpec.ofChange fnParentObjectsAreThoseBeginningInOverlapWrong)

/-- 'zzlaws_internal_pool_b1.FnIsZeroOfWholeIffOfBothSidesOfAnyCut': WHATEVER THE INPUT: true; the input reads as it did. -/
def fnIsZeroOfWholeIffOfBothSidesOfAnyCutSpec : ChangeSpec := { name := "fnIsZeroOfWholeIffOfBothSidesOfAnyCut", fn := fun _ => fun
  | [d1, d2] => { results := [.lit (.bool true)], args := [d1, d2] }
  | _ => none }
def fnIsZeroOfWholeIffOfBothSidesOfAnyCutRow : OpenClaim := { program := "qxb6617413a", sum := "06eb0fe4a8be656b9dd5d804c228a980a157998d3725e1c99a199027cf8f92fa", func := "example.com/strandline/strandline/zzlaws_internal_pool_b1.FnIsZeroOfWholeIffOfBothSidesOfAnyCut", spec := "fnIsZeroOfWholeIffOfBothSidesOfAnyCut", apart := false }
def FnIsZeroOfWholeIffOfBothSidesOfAnyCutSaid : Prop := fnIsZeroOfWholeIffOfBothSidesOfAnyCutRow.holds Try.pinned (OpenSpec.ofChange fnIsZeroOfWholeIffOfBothSidesOfAnyCutSpec)

/-- ITS FALSE NEIGHBOUR: 'it returns false'. Refute it at one input. -/
def fnIsZeroOfWholeIffOfBothSidesOfAnyCutWrong : ChangeSpec := { name := "fnIsZeroOfWholeIffOfBothSidesOfAnyCut", fn := fun _ => fun
  | [d1, d2] => { results := [.lit (.bool false)], args := [d1, d2] }
  | _ => none }
def FnIsZeroOfWholeIffOfBothSidesOfAnyCutWrongFalsely : Prop := fnIsZeroOfWholeIffOfBothSidesOfAnyCutRow.holds Try.pinned (OpenSpec.ofChange fnIsZeroOfWholeIffOfBothSidesOfAnyCutWrong)

/-- 'zzlaws_internal_pool_b1.FnIsZeroAfterOneByteInsertedAnywhere': WHATEVER THE INPUT: true; the input reads as it did. -/
def fnIsZeroAfterOneByteInsertedAnywhereSpec : ChangeSpec := { name := "fnIsZeroAfterOneByteInsertedAnywhere", fn := fun _ => fun
  | [d1, d2, d3] => { results := [.lit (.bool true)], args := [d1, d2, d3] }
  | _ => none }
def fnIsZeroAfterOneByteInsertedAnywhereRow : OpenClaim := { program := "qxb6617413a", sum := "06eb0fe4a8be656b9dd5d804c228a980a157998d3725e1c99a199027cf8f92fa", func := "example.com/strandline/strandline/zzlaws_internal_pool_b1.FnIsZeroAfterOneByteInsertedAnywhere", spec := "fnIsZeroAfterOneByteInsertedAnywhere", apart := false }
def FnIsZeroAfterOneByteInsertedAnywhereSaid : Prop := fnIsZeroAfterOneByteInsertedAnywhereRow.holds Try.pinned (OpenSpec.ofChange fnIsZeroAfterOneByteInsertedAnywhereSpec)

/-- ITS FALSE NEIGHBOUR: 'it returns false'. Refute it at one input. -/
def fnIsZeroAfterOneByteInsertedAnywhereWrong : ChangeSpec := { name := "fnIsZeroAfterOneByteInsertedAnywhere", fn := fun _ => fun
  | [d1, d2, d3] => { results := [.lit (.bool false)], args := [d1, d2, d3] }
  | _ => none }
def FnIsZeroAfterOneByteInsertedAnywhereWrongFalsely : Prop := fnIsZeroAfterOneByteInsertedAnywhereRow.holds Try.pinned (OpenSpec.ofChange fnIsZeroAfterOneByteInsertedAnywhereWrong)

end Rows
end Go.Proofs.Qxb6617413a
