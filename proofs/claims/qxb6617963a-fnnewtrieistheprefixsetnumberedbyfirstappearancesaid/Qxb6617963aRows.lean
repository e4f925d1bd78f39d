/-
  No cell of these rows narrows 'for every input' (looked for: loops, veiled, ifaces, maps, wideKeys, modest, calm, conditions, laid).
  DERIVED. THE GIVEN ROWS OF THIS SEAT. 5 by the template 'for every input the law returns true; each argument reads behind the call as it read before'; 0 by the template 'total and deterministic' (their statements: Qxb6617963aTotals.lean).
  GIVEN WITH THE SEED: the statements are not yours to turn. If you find one false, say at which input.
  Laid BY PROGRAM, IN A SANDBOX (cutbox-rows.mjs): the forced cells as the released guide's own fill.sh prints them over the translation 718532c474e8153b… (all of the seat's roots in one cut). By AI agents, Wed Nov 11 2026. No macro, syntax, notation, axiom, sorry.
-/
import Derived.Test.Qxb6617963aChecked
import GoSem.Claim
import GoSem.ClaimJoined
import GoSem.ClaimMapViews
import Derived.JoinedTies
import Derived.KernelRfl
namespace Go.Proofs.Qxb6617963a
/- THE CELL 'sum', in the pinned program and in every row, IS THE sha256 OF THE DUMP (.gsa) THAT Qxb6617963aProg.lean LOADS. Nothing in Lean hashes anything: it is a label: what it is worth is what the hold of that sum in a sandbox is worth. -/
noncomputable def Try.pinned : Pinned := { name := "qxb6617963a", sum := "718532c474e8153b72ce255f72595942831becab7dac5f289a06ea896ca65cc2", checked := Try.checked }
namespace Rows
def none {H : Type} : Left H := { results := [], args := [] }

/-- 'zzlaws_internal_secret_b1.FnHoldsEscapeIsSomeWindowOfPercentHexHex': WHATEVER THE INPUT: true; the input reads as it did. -/
def fnHoldsEscapeIsSomeWindowOfPercentHexHexSpec : ChangeSpec := { name := "fnHoldsEscapeIsSomeWindowOfPercentHexHex", fn := fun _ => fun
  | [d] => { results := [.lit (.bool true)], args := [d] }
  | _ => none }
def fnHoldsEscapeIsSomeWindowOfPercentHexHexRow : OpenClaim := { program := "qxb6617963a", sum := "718532c474e8153b72ce255f72595942831becab7dac5f289a06ea896ca65cc2", func := "example.com/keen-relay/keen-relay/zzlaws_internal_secret_b1.FnHoldsEscapeIsSomeWindowOfPercentHexHex", spec := "fnHoldsEscapeIsSomeWindowOfPercentHexHex", inPlace := ["internal/bytealg.IndexByteString"], apart := false }
def FnHoldsEscapeIsSomeWindowOfPercentHexHexSaid : Prop := fnHoldsEscapeIsSomeWindowOfPercentHexHexRow.holds Try.pinned (OpenSpec.ofChange fnHoldsEscapeIsSomeWindowOfPercentHexHexSpec)

/-- ITS FALSE NEIGHBOUR: 'it returns false'. Refute it at one input. -/
def fnHoldsEscapeIsSomeWindowOfPercentHexHexWrong : ChangeSpec := { name := "fnHoldsEscapeIsSomeWindowOfPercentHexHex", fn := fun _ => fun
  | [d] => { results := [.lit (.bool false)], args := [d] }
  | _ => none }
def FnHoldsEscapeIsSomeWindowOfPercentHexHexWrongFalsely : Prop := fnHoldsEscapeIsSomeWindowOfPercentHexHexRow.holds Try.pinned (OpenSpec.ofChange fnHoldsEscapeIsSomeWindowOfPercentHexHexWrong)

/-- 'zzlaws_internal_secret_b1.FnHoldsEscapeOfAJoinIsEitherPartOrTheSeam': WHATEVER THE INPUT: true; the input reads as it did. -/
def fnHoldsEscapeOfAJoinIsEitherPartOrTheSeamSpec : ChangeSpec := { name := "fnHoldsEscapeOfAJoinIsEitherPartOrTheSeam", fn := fun _ => fun
  | [d1, d2] => { results := [.lit (.bool true)], args := [d1, d2] }
  | _ => none }
def fnHoldsEscapeOfAJoinIsEitherPartOrTheSeamRow : OpenClaim := { program := "qxb6617963a", sum := "718532c474e8153b72ce255f72595942831becab7dac5f289a06ea896ca65cc2", func := "example.com/keen-relay/keen-relay/zzlaws_internal_secret_b1.FnHoldsEscapeOfAJoinIsEitherPartOrTheSeam", spec := "fnHoldsEscapeOfAJoinIsEitherPartOrTheSeam", inPlace := ["internal/bytealg.IndexByteString"], apart := false }
def FnHoldsEscapeOfAJoinIsEitherPartOrTheSeamSaid : Prop := fnHoldsEscapeOfAJoinIsEitherPartOrTheSeamRow.holds Try.pinned (OpenSpec.ofChange fnHoldsEscapeOfAJoinIsEitherPartOrTheSeamSpec)

/-- ITS FALSE NEIGHBOUR: 'it returns false'. Refute it at one input. -/
def fnHoldsEscapeOfAJoinIsEitherPartOrTheSeamWrong : ChangeSpec := { name := "fnHoldsEscapeOfAJoinIsEitherPartOrTheSeam", fn := fun _ => fun
  | [d1, d2] => { results := [.lit (.bool false)], args := [d1, d2] }
  | _ => none }
def FnHoldsEscapeOfAJoinIsEitherPartOrTheSeamWrongFalsely : Prop := fnHoldsEscapeOfAJoinIsEitherPartOrTheSeamRow.holds Try.pinned (OpenSpec.ofChange fnHoldsEscapeOfAJoinIsEitherPartOrTheSeamWrong)

/-- 'zzlaws_internal_secret_b1.FnHexDigitInvertsNibbleDigitsAndDecidesEscapes': WHATEVER THE INPUT: true; the input reads as it did. -/
def fnHexDigitInvertsNibbleDigitsAndDecidesEscapesSpec : ChangeSpec := { name := "fnHexDigitInvertsNibbleDigitsAndDecidesEscapes", fn := fun _ => fun
  | [d1, d2] => { results := [.lit (.bool true)], args := [d1, d2] }
  | _ => none }
def fnHexDigitInvertsNibbleDigitsAndDecidesEscapesRow : OpenClaim := { program := "qxb6617963a", sum := "718532c474e8153b72ce255f72595942831becab7dac5f289a06ea896ca65cc2", func := "example.com/keen-relay/keen-relay/zzlaws_internal_secret_b1.FnHexDigitInvertsNibbleDigitsAndDecidesEscapes", spec := "fnHexDigitInvertsNibbleDigitsAndDecidesEscapes", inPlace := ["internal/bytealg.IndexByteString"], apart := false }
def FnHexDigitInvertsNibbleDigitsAndDecidesEscapesSaid : Prop := fnHexDigitInvertsNibbleDigitsAndDecidesEscapesRow.holds Try.pinned (OpenSpec.ofChange fnHexDigitInvertsNibbleDigitsAndDecidesEscapesSpec)

/-- ITS FALSE NEIGHBOUR: 'it returns false'. Refute it at one input. -/
def fnHexDigitInvertsNibbleDigitsAndDecidesEscapesWrong : ChangeSpec := { name := "fnHexDigitInvertsNibbleDigitsAndDecidesEscapes", fn := fun _ => fun
  | [d1, d2] => { results := [.lit (.bool false)], args := [d1, d2] }
  | _ => none }
def FnHexDigitInvertsNibbleDigitsAndDecidesEscapesWrongFalsely : Prop := fnHexDigitInvertsNibbleDigitsAndDecidesEscapesRow.holds Try.pinned (OpenSpec.ofChange fnHexDigitInvertsNibbleDigitsAndDecidesEscapesWrong)

/-- 'zzlaws_internal_secret_b1.FnNewTrieIsThePrefixSetNumberedByFirstAppearance': WHATEVER THE INPUT: true; the input reads as it did. -/
def fnNewTrieIsThePrefixSetNumberedByFirstAppearanceSpec : ChangeSpec := { name := "fnNewTrieIsThePrefixSetNumberedByFirstAppearance", fn := fun _ => fun
  | [d] => { results := [.lit (.bool true)], args := [d] }
  | _ => none }
def fnNewTrieIsThePrefixSetNumberedByFirstAppearanceRow : OpenClaim := { program := "qxb6617963a", sum := "718532c474e8153b72ce255f72595942831becab7dac5f289a06ea896ca65cc2", func := "example.com/keen-relay/keen-relay/zzlaws_internal_secret_b1.FnNewTrieIsThePrefixSetNumberedByFirstAppearance", spec := "fnNewTrieIsThePrefixSetNumberedByFirstAppearance", apart := false }
def FnNewTrieIsThePrefixSetNumberedByFirstAppearanceSaid : Prop := fnNewTrieIsThePrefixSetNumberedByFirstAppearanceRow.holds Try.pinned (OpenSpec.ofChange fnNewTrieIsThePrefixSetNumberedByFirstAppearanceSpec)

/-- ITS FALSE NEIGHBOUR: 'it returns false'. Refute it at one input. -/
def fnNewTrieIsThePrefixSetNumberedByFirstAppearanceWrong : ChangeSpec := { name := "fnNewTrieIsThePrefixSetNumberedByFirstAppearance", fn := fun _ => fun
  | [d] => { results := [.lit (.bool false)], args := [d] }
  | _ => none }
def FnNewTrieIsThePrefixSetNumberedByFirstAppearanceWrongFalsely : Prop := fnNewTrieIsThePrefixSetNumberedByFirstAppearanceRow.holds Try.pinned (OpenSpec.ofChange fnNewTrieIsThePrefixSetNumberedByFirstAppearanceWrong)

/-- 'zzlaws_internal_secret_b1.FnNewTrieWalkMeetsExactlyTheTextsThatBeginTheQuery': WHATEVER THE INPUT: true; the input reads as it did. -/
def fnNewTrieWalkMeetsExactlyTheTextsThatBeginTheQuerySpec : ChangeSpec := { name := "fnNewTrieWalkMeetsExactlyTheTextsThatBeginTheQuery", fn := fun _ => fun
  | [d1, d2] => { results := [.lit (.bool true)], args := [d1, d2] }
  | _ => none }
def fnNewTrieWalkMeetsExactlyTheTextsThatBeginTheQueryRow : OpenClaim := { program := "qxb6617963a", sum := "718532c474e8153b72ce255f72595942831becab7dac5f289a06ea896ca65cc2", func := "example.com/keen-relay/keen-relay/zzlaws_internal_secret_b1.FnNewTrieWalkMeetsExactlyTheTextsThatBeginTheQuery", spec := "fnNewTrieWalkMeetsExactlyTheTextsThatBeginTheQuery", apart := false }
def FnNewTrieWalkMeetsExactlyTheTextsThatBeginTheQuerySaid : Prop := fnNewTrieWalkMeetsExactlyTheTextsThatBeginTheQueryRow.holds Try.pinned (OpenSpec.ofChange fnNewTrieWalkMeetsExactlyTheTextsThatBeginTheQuerySpec)

/-- ITS FALSE NEIGHBOUR: 'it returns false'. Refute it at one input. -/
def fnNewTrieWalkMeetsExactlyTheTextsThatBeginTheQueryWrong : ChangeSpec := { name := "fnNewTrieWalkMeetsExactlyTheTextsThatBeginTheQuery", fn := fun _ => fun
  | [d1, d2] => { results := [.lit (.bool false)], args := [d1, d2] }
  | _ => none }
def FnNewTrieWalkMeetsExactlyTheTextsThatBeginTheQueryWrongFalsely : Prop := fnNewTrieWalkMeetsExactlyTheTextsThatBeginTheQueryRow.holds Try.pinned (OpenSpec.ofChange fnNewTrieWalkMeetsExactlyTheTextsThatBeginTheQueryWrong)

end Rows
end Go.Proofs.Qxb6617963a
