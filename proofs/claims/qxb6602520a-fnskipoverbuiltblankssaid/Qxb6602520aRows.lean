/-
  No cell of these rows narrows 'for every input' (looked for: loops, veiled, ifaces, maps, wideKeys, modest, calm, conditions, laid).
  DERIVED. THE GIVEN ROWS OF THIS SEAT. 7 by the template 'for every input the law returns true; each argument reads behind the call as it read before'; 0 by the template 'total and deterministic' (their statements: Qxb6602520aTotals.lean).
  GIVEN WITH THE SEED: the statements are not yours to turn. If you find one false, say at which input.
  Laid BY PROGRAM, IN A SANDBOX (cutbox-rows.mjs): the forced cells as the released guide's own fill.sh prints them over the translation 49f5a5adbaa66f89… (all of the seat's roots in one cut). By AI agents, Wed Nov 11 2026. No macro, syntax, notation, axiom, sorry.
-/
import Derived.Test.Qxb6602520aChecked
import GoSem.Claim
import GoSem.ClaimJoined
import GoSem.ClaimMapViews
import Derived.JoinedTies
import Derived.KernelRfl
namespace Go.Proofs.Qxb6602520a
/- THE CELL 'sum', in the pinned program and in every row, IS THE sha256 OF THE DUMP (.gsa) THAT Qxb6602520aProg.lean LOADS. Nothing in Lean hashes anything: it is a label: what it is worth is what the hold of that sum in a sandbox is worth. -/
noncomputable def Try.pinned : Pinned := { name := "qxb6602520a", sum := "49f5a5adbaa66f899acb68f376ec01b32880b979add28b9de8e4273ad1e54097", checked := Try.checked }
namespace Rows
def none {H : Type} : Left H := { results := [], args := [] }

/-- 'zzlaws_internal_parser_b1.FnQuotedMatchesRunModel': WHATEVER THE INPUT: true; the input reads as it did. -/
def fnQuotedMatchesRunModelSpec : ChangeSpec := { name := "fnQuotedMatchesRunModel", fn := fun _ => fun
  | [d1, d2] => { results := [.lit (.bool true)], args := [d1, d2] }
  | _ => none }
def fnQuotedMatchesRunModelRow : OpenClaim := { program := "qxb6602520a", sum := "49f5a5adbaa66f899acb68f376ec01b32880b979add28b9de8e4273ad1e54097", func := "example.com/holdfast/holdfast/zzlaws_internal_parser_b1.FnQuotedMatchesRunModel", spec := "fnQuotedMatchesRunModel", inPlace := ["internal/abi.NoEscape"], apart := false }
def FnQuotedMatchesRunModelSaid : Prop := fnQuotedMatchesRunModelRow.holds Try.pinned (OpenSpec.ofChange fnQuotedMatchesRunModelSpec)

/-- ITS FALSE NEIGHBOUR: 'it returns false'. Refute it at one input. -/
def fnQuotedMatchesRunModelWrong : ChangeSpec := { name := "fnQuotedMatchesRunModel", fn := fun _ => fun
  | [d1, d2] => { results := [.lit (.bool false)], args := [d1, d2] }
  | _ => none }
def FnQuotedMatchesRunModelWrongFalsely : Prop := fnQuotedMatchesRunModelRow.holds Try.pinned (OpenSpec.ofChange fnQuotedMatchesRunModelWrong)

/-- 'zzlaws_internal_parser_b1.FnQuotedRoundTrip': WHATEVER THE INPUT: true; the input reads as it did. -/
def fnQuotedRoundTripSpec : ChangeSpec := { name := "fnQuotedRoundTrip", fn := fun _ => fun
  | [d1, d2, d3] => { results := [.lit (.bool true)], args := [d1, d2, d3] }
  | _ => none }
def fnQuotedRoundTripRow : OpenClaim := { program := "qxb6602520a", sum := "49f5a5adbaa66f899acb68f376ec01b32880b979add28b9de8e4273ad1e54097", func := "example.com/holdfast/holdfast/zzlaws_internal_parser_b1.FnQuotedRoundTrip", spec := "fnQuotedRoundTrip", inPlace := ["internal/abi.NoEscape"], apart := false }
def FnQuotedRoundTripSaid : Prop := fnQuotedRoundTripRow.holds Try.pinned (OpenSpec.ofChange fnQuotedRoundTripSpec)

/-- ITS FALSE NEIGHBOUR: 'it returns false'. Refute it at one input. -/
def fnQuotedRoundTripWrong : ChangeSpec := { name := "fnQuotedRoundTrip", fn := fun _ => fun
  | [d1, d2, d3] => { results := [.lit (.bool false)], args := [d1, d2, d3] }
  | _ => none }
def FnQuotedRoundTripWrongFalsely : Prop := fnQuotedRoundTripRow.holds Try.pinned (OpenSpec.ofChange fnQuotedRoundTripWrong)

/-- 'zzlaws_internal_parser_b1.FnQuotedIgnoresWhatFollows': WHATEVER THE INPUT: true; the input reads as it did. -/
def fnQuotedIgnoresWhatFollowsSpec : ChangeSpec := { name := "fnQuotedIgnoresWhatFollows", fn := fun _ => fun
  | [d1, d2, d3] => { results := [.lit (.bool true)], args := [d1, d2, d3] }
  | _ => none }
def fnQuotedIgnoresWhatFollowsRow : OpenClaim := { program := "qxb6602520a", sum := "49f5a5adbaa66f899acb68f376ec01b32880b979add28b9de8e4273ad1e54097", func := "example.com/holdfast/holdfast/zzlaws_internal_parser_b1.FnQuotedIgnoresWhatFollows", spec := "fnQuotedIgnoresWhatFollows", inPlace := ["internal/abi.NoEscape"], apart := false }
def FnQuotedIgnoresWhatFollowsSaid : Prop := fnQuotedIgnoresWhatFollowsRow.holds Try.pinned (OpenSpec.ofChange fnQuotedIgnoresWhatFollowsSpec)

/-- ITS FALSE NEIGHBOUR: 'it returns false'. Refute it at one input. -/
def fnQuotedIgnoresWhatFollowsWrong : ChangeSpec := { name := "fnQuotedIgnoresWhatFollows", fn := fun _ => fun
  | [d1, d2, d3] => { results := [.lit (.bool false)], args := [d1, d2, d3] }
  | _ => none }
def FnQuotedIgnoresWhatFollowsWrongFalsely : Prop := fnQuotedIgnoresWhatFollowsRow.holds Try.pinned (OpenSpec.ofChange fnQuotedIgnoresWhatFollowsWrong)

/-- 'zzlaws_internal_parser_b1.FnSkipMatchesRightToLeftModel': WHATEVER THE INPUT: true; the input reads as it did. -/
def fnSkipMatchesRightToLeftModelSpec : ChangeSpec := { name := "fnSkipMatchesRightToLeftModel", fn := fun _ => fun
  | [d1, d2] => { results := [.lit (.bool true)], args := [d1, d2] }
  | _ => none }
def fnSkipMatchesRightToLeftModelRow : OpenClaim := { program := "qxb6602520a", sum := "49f5a5adbaa66f899acb68f376ec01b32880b979add28b9de8e4273ad1e54097", func := "example.com/holdfast/holdfast/zzlaws_internal_parser_b1.FnSkipMatchesRightToLeftModel", spec := "fnSkipMatchesRightToLeftModel", inPlace := ["internal/bytealg.IndexByteString"], apart := false }
def FnSkipMatchesRightToLeftModelSaid : Prop := fnSkipMatchesRightToLeftModelRow.holds Try.pinned (OpenSpec.ofChange fnSkipMatchesRightToLeftModelSpec)

/-- ITS FALSE NEIGHBOUR: 'it returns false'. Refute it at one input. -/
def fnSkipMatchesRightToLeftModelWrong : ChangeSpec := { name := "fnSkipMatchesRightToLeftModel", fn := fun _ => fun
  | [d1, d2] => { results := [.lit (.bool false)], args := [d1, d2] }
  | _ => none }
def FnSkipMatchesRightToLeftModelWrongFalsely : Prop := fnSkipMatchesRightToLeftModelRow.holds Try.pinned (OpenSpec.ofChange fnSkipMatchesRightToLeftModelWrong)

/-- 'zzlaws_internal_parser_b1.FnSkipStopsAtTokenAndIsIdempotent': WHATEVER THE INPUT: true; the input reads as it did. -/
def fnSkipStopsAtTokenAndIsIdempotentSpec : ChangeSpec := { name := "fnSkipStopsAtTokenAndIsIdempotent", fn := fun _ => fun
  | [d1, d2] => { results := [.lit (.bool true)], args := [d1, d2] }
  | _ => none }
def fnSkipStopsAtTokenAndIsIdempotentRow : OpenClaim := { program := "qxb6602520a", sum := "49f5a5adbaa66f899acb68f376ec01b32880b979add28b9de8e4273ad1e54097", func := "example.com/holdfast/holdfast/zzlaws_internal_parser_b1.FnSkipStopsAtTokenAndIsIdempotent", spec := "fnSkipStopsAtTokenAndIsIdempotent", inPlace := ["internal/bytealg.IndexByteString"], apart := false }
def FnSkipStopsAtTokenAndIsIdempotentSaid : Prop := fnSkipStopsAtTokenAndIsIdempotentRow.holds Try.pinned (OpenSpec.ofChange fnSkipStopsAtTokenAndIsIdempotentSpec)

/-- ITS FALSE NEIGHBOUR: 'it returns false'. Refute it at one input. -/
def fnSkipStopsAtTokenAndIsIdempotentWrong : ChangeSpec := { name := "fnSkipStopsAtTokenAndIsIdempotent", fn := fun _ => fun
  | [d1, d2] => { results := [.lit (.bool false)], args := [d1, d2] }
  | _ => none }
def FnSkipStopsAtTokenAndIsIdempotentWrongFalsely : Prop := fnSkipStopsAtTokenAndIsIdempotentRow.holds Try.pinned (OpenSpec.ofChange fnSkipStopsAtTokenAndIsIdempotentWrong)

/-- 'zzlaws_internal_parser_b1.FnSkipOverBuiltBlanks': WHATEVER THE INPUT: true; the input reads as it did. -/
def fnSkipOverBuiltBlanksSpec : ChangeSpec := { name := "fnSkipOverBuiltBlanks", fn := fun _ => fun
  | [d1, d2, d3, d4, d5, d6] => { results := [.lit (.bool true)], args := [d1, d2, d3, d4, d5, d6] }
  | _ => none }
def fnSkipOverBuiltBlanksRow : OpenClaim := { program := "qxb6602520a", sum := "49f5a5adbaa66f899acb68f376ec01b32880b979add28b9de8e4273ad1e54097", func := "example.com/holdfast/holdfast/zzlaws_internal_parser_b1.FnSkipOverBuiltBlanks", spec := "fnSkipOverBuiltBlanks", inPlace := ["internal/bytealg.IndexByteString"], apart := false }
def FnSkipOverBuiltBlanksSaid : Prop := fnSkipOverBuiltBlanksRow.holds Try.pinned (OpenSpec.ofChange fnSkipOverBuiltBlanksSpec)

/-- ITS FALSE NEIGHBOUR: 'it returns false'. Refute it at one input. -/
def fnSkipOverBuiltBlanksWrong : ChangeSpec := { name := "fnSkipOverBuiltBlanks", fn := fun _ => fun
  | [d1, d2, d3, d4, d5, d6] => { results := [.lit (.bool false)], args := [d1, d2, d3, d4, d5, d6] }
  | _ => none }
def FnSkipOverBuiltBlanksWrongFalsely : Prop := fnSkipOverBuiltBlanksRow.holds Try.pinned (OpenSpec.ofChange fnSkipOverBuiltBlanksWrong)

/-- 'zzlaws_internal_parser_b1.FnIsolationLevelStringSeparates': WHATEVER THE INPUT: true; the input reads as it did. -/
def fnIsolationLevelStringSeparatesSpec : ChangeSpec := { name := "fnIsolationLevelStringSeparates", fn := fun _ => fun
  | [d1, d2] => { results := [.lit (.bool true)], args := [d1, d2] }
  | _ => none }
def fnIsolationLevelStringSeparatesRow : OpenClaim := { program := "qxb6602520a", sum := "49f5a5adbaa66f899acb68f376ec01b32880b979add28b9de8e4273ad1e54097", func := "example.com/holdfast/holdfast/zzlaws_internal_parser_b1.FnIsolationLevelStringSeparates", spec := "fnIsolationLevelStringSeparates", apart := false }
def FnIsolationLevelStringSeparatesSaid : Prop := fnIsolationLevelStringSeparatesRow.holds Try.pinned (OpenSpec.ofChange fnIsolationLevelStringSeparatesSpec)

/-- ITS FALSE NEIGHBOUR: 'it returns false'. Refute it at one input. -/
def fnIsolationLevelStringSeparatesWrong : ChangeSpec := { name := "fnIsolationLevelStringSeparates", fn := fun _ => fun
  | [d1, d2] => { results := [.lit (.bool false)], args := [d1, d2] }
  | _ => none }
def FnIsolationLevelStringSeparatesWrongFalsely : Prop := fnIsolationLevelStringSeparatesRow.holds Try.pinned (OpenSpec.ofChange fnIsolationLevelStringSeparatesWrong)

end Rows
end Go.Proofs.Qxb6602520a
