/-
  No cell of these rows narrows 'for every input' (looked for: loops, veiled, ifaces, maps, wideKeys, modest, calm, conditions, laid).
  DERIVED. THE GIVEN ROWS OF THIS SEAT. 2 by the template 'for every input the law returns true; each argument reads behind the call as it read before'; 0 by the template 'total and deterministic' (their statements: Qxb6617911aTotals.lean).
  GIVEN WITH THE SEED: the statements are not yours to turn. If you find one false, say at which input.
  Laid BY PROGRAM, IN A SANDBOX (cutbox-rows.mjs): the forced cells as the released guide's own fill.sh prints them over the translation ec11b92433978338… (all of the seat's roots in one cut). By AI agents, Wed Nov 11 2026. No macro, syntax, notation, axiom, sorry.
-/
import Derived.Test.Qxb6617911aChecked
import GoSem.Claim
import GoSem.ClaimJoined
import GoSem.ClaimMapViews
import Derived.JoinedTies
import Derived.KernelRfl
namespace Go.Proofs.Qxb6617911a
/- THE CELL 'sum', in the pinned program and in every row, IS THE sha256 OF THE DUMP (.gsa) THAT Qxb6617911aProg.lean LOADS. Nothing in Lean hashes anything: it is a label: what it is worth is what the hold of that sum in a sandbox is worth. -/
noncomputable def Try.pinned : Pinned := { name := "qxb6617911a", sum := "ec11b92433978338dbe422d878447607c639ad790ea3a526eb24c0e993f11ea6", checked := Try.checked }
namespace Rows
def none {H : Type} : Left H := { results := [], args := [] }

/-- 'zzlaws_protocol_b1.FnTakenAtAnyCutKeepsExactlyNamingsAboveEveryTakenVersion': WHATEVER THE INPUT: true; the input reads as it did. -/
def fnTakenAtAnyCutKeepsExactlyNamingsAboveEveryTakenVersionSpec : ChangeSpec := { name := "fnTakenAtAnyCutKeepsExactlyNamingsAboveEveryTakenVersion", fn := fun _ => fun
  | [d1, d2, d3] => { results := [.lit (.bool true)], args := [d1, d2, d3] }
  | _ => none }
def fnTakenAtAnyCutKeepsExactlyNamingsAboveEveryTakenVersionRow : OpenClaim := { program := "qxb6617911a", sum := "ec11b92433978338dbe422d878447607c639ad790ea3a526eb24c0e993f11ea6", func := "example.com/chunkwright/chunkwright/zzlaws_protocol_b1.FnTakenAtAnyCutKeepsExactlyNamingsAboveEveryTakenVersion", spec := "fnTakenAtAnyCutKeepsExactlyNamingsAboveEveryTakenVersion", apart := false }
def FnTakenAtAnyCutKeepsExactlyNamingsAboveEveryTakenVersionSaid : Prop := fnTakenAtAnyCutKeepsExactlyNamingsAboveEveryTakenVersionRow.holds Try.pinned (OpenSpec.ofChange fnTakenAtAnyCutKeepsExactlyNamingsAboveEveryTakenVersionSpec)

/-- ITS FALSE NEIGHBOUR: 'it returns false'. Refute it at one input. -/
def fnTakenAtAnyCutKeepsExactlyNamingsAboveEveryTakenVersionWrong : ChangeSpec := { name := "fnTakenAtAnyCutKeepsExactlyNamingsAboveEveryTakenVersion", fn := fun _ => fun
  | [d1, d2, d3] => { results := [.lit (.bool false)], args := [d1, d2, d3] }
  | _ => none }
def FnTakenAtAnyCutKeepsExactlyNamingsAboveEveryTakenVersionWrongFalsely : Prop := fnTakenAtAnyCutKeepsExactlyNamingsAboveEveryTakenVersionRow.holds Try.pinned (OpenSpec.ofChange fnTakenAtAnyCutKeepsExactlyNamingsAboveEveryTakenVersionWrong)

/-- 'zzlaws_protocol_b1.FnTakenTwiceOrReversedIsTakenOnce': WHATEVER THE INPUT: true; the input reads as it did. -/
def fnTakenTwiceOrReversedIsTakenOnceSpec : ChangeSpec := { name := "fnTakenTwiceOrReversedIsTakenOnce", fn := fun _ => fun
  | [d1, d2] => { results := [.lit (.bool true)], args := [d1, d2] }
  | _ => none }
def fnTakenTwiceOrReversedIsTakenOnceRow : OpenClaim := { program := "qxb6617911a", sum := "ec11b92433978338dbe422d878447607c639ad790ea3a526eb24c0e993f11ea6", func := "example.com/chunkwright/chunkwright/zzlaws_protocol_b1.FnTakenTwiceOrReversedIsTakenOnce", spec := "fnTakenTwiceOrReversedIsTakenOnce", apart := false }
def FnTakenTwiceOrReversedIsTakenOnceSaid : Prop := fnTakenTwiceOrReversedIsTakenOnceRow.holds Try.pinned (OpenSpec.ofChange fnTakenTwiceOrReversedIsTakenOnceSpec)

/-- ITS FALSE NEIGHBOUR: 'it returns false'. Refute it at one input. -/
def fnTakenTwiceOrReversedIsTakenOnceWrong : ChangeSpec := { name := "fnTakenTwiceOrReversedIsTakenOnce", fn := fun _ => fun
  | [d1, d2] => { results := [.lit (.bool false)], args := [d1, d2] }
  | _ => none }
def FnTakenTwiceOrReversedIsTakenOnceWrongFalsely : Prop := fnTakenTwiceOrReversedIsTakenOnceRow.holds Try.pinned (OpenSpec.ofChange fnTakenTwiceOrReversedIsTakenOnceWrong)

end Rows
end Go.Proofs.Qxb6617911a
