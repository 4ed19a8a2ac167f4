/-
  No cell of these rows narrows 'for every input' (looked for: loops, veiled, ifaces, maps, wideKeys, modest, calm, conditions, laid).
  DERIVED. THE GIVEN ROWS OF THIS SEAT. 4 by the template 'for every input the law returns true; each argument reads behind the call as it read before'; 0 by the template 'total and deterministic' (their statements: Qxb6603768aTotals.lean).
  GIVEN WITH THE SEED: the statements are not yours to turn. If you find one false, say at which input.
  Laid BY PROGRAM, IN A SANDBOX (cutbox-rows.mjs): the forced cells as the released guide's own fill.sh prints them over the translation 99a8f3553b82dc7b… (all of the seat's roots in one cut). By AI agents, Wed Nov 11 2026. No macro, syntax, notation, axiom, sorry.
-/
import Derived.Test.Qxb6603768aChecked
import GoSem.Claim
import GoSem.ClaimJoined
import GoSem.ClaimMapViews
import Derived.JoinedTies
import Derived.KernelRfl
namespace Go.Proofs.Qxb6603768a
/- THE CELL 'sum', in the pinned program and in every row, IS THE sha256 OF THE DUMP (.gsa) THAT Qxb6603768aProg.lean LOADS. Nothing in Lean hashes anything: it is a label: what it is worth is what the hold of that sum in a sandbox is worth. -/
noncomputable def Try.pinned : Pinned := { name := "qxb6603768a", sum := "99a8f3553b82dc7bfc9d076328accb875fdf17193472eaef6bab474a22e73a0c", checked := Try.checked }
namespace Rows
def none {H : Type} : Left H := { results := [], args := [] }

/-- 'zzlaws_internal_policy_b1.FnMatchWildcardsAgreesWithTableMatcher': WHATEVER THE INPUT: true; the input reads as it did. -/
def fnMatchWildcardsAgreesWithTableMatcherSpec : ChangeSpec := { name := "fnMatchWildcardsAgreesWithTableMatcher", fn := fun _ => fun
  | [d1, d2] => { results := [.lit (.bool true)], args := [d1, d2] }
  | _ => none }
def fnMatchWildcardsAgreesWithTableMatcherRow : OpenClaim := { program := "qxb6603768a", sum := "99a8f3553b82dc7bfc9d076328accb875fdf17193472eaef6bab474a22e73a0c", func := "example.com/grantry/grantry/zzlaws_internal_policy_b1.FnMatchWildcardsAgreesWithTableMatcher", spec := "fnMatchWildcardsAgreesWithTableMatcher", inPlace := ["internal/bytealg.IndexByteString", "internal/bytealg.IndexString"], named := ["internal/bytealg.MaxLen"], apart := false }
def FnMatchWildcardsAgreesWithTableMatcherSaid : Prop := fnMatchWildcardsAgreesWithTableMatcherRow.holds Try.pinned (OpenSpec.ofChange fnMatchWildcardsAgreesWithTableMatcherSpec)

/-- ITS FALSE NEIGHBOUR: 'it returns false'. Refute it at one input. -/
def fnMatchWildcardsAgreesWithTableMatcherWrong : ChangeSpec := { name := "fnMatchWildcardsAgreesWithTableMatcher", fn := fun _ => fun
  | [d1, d2] => { results := [.lit (.bool false)], args := [d1, d2] }
  | _ => none }
def FnMatchWildcardsAgreesWithTableMatcherWrongFalsely : Prop := fnMatchWildcardsAgreesWithTableMatcherRow.holds Try.pinned (OpenSpec.ofChange fnMatchWildcardsAgreesWithTableMatcherWrong)

/-- 'zzlaws_internal_policy_b1.FnMatchWildcardsAcceptsEveryFilling': WHATEVER THE INPUT: true; the input reads as it did. -/
def fnMatchWildcardsAcceptsEveryFillingSpec : ChangeSpec := { name := "fnMatchWildcardsAcceptsEveryFilling", fn := fun _ => fun
  | [d1, d2] => { results := [.lit (.bool true)], args := [d1, d2] }
  | _ => none }
def fnMatchWildcardsAcceptsEveryFillingRow : OpenClaim := { program := "qxb6603768a", sum := "99a8f3553b82dc7bfc9d076328accb875fdf17193472eaef6bab474a22e73a0c", func := "example.com/grantry/grantry/zzlaws_internal_policy_b1.FnMatchWildcardsAcceptsEveryFilling", spec := "fnMatchWildcardsAcceptsEveryFilling", inPlace := ["internal/bytealg.IndexByteString", "internal/bytealg.IndexString"], named := ["internal/bytealg.MaxLen"], apart := false }
def FnMatchWildcardsAcceptsEveryFillingSaid : Prop := fnMatchWildcardsAcceptsEveryFillingRow.holds Try.pinned (OpenSpec.ofChange fnMatchWildcardsAcceptsEveryFillingSpec)

/-- ITS FALSE NEIGHBOUR: 'it returns false'. Refute it at one input. -/
def fnMatchWildcardsAcceptsEveryFillingWrong : ChangeSpec := { name := "fnMatchWildcardsAcceptsEveryFilling", fn := fun _ => fun
  | [d1, d2] => { results := [.lit (.bool false)], args := [d1, d2] }
  | _ => none }
def FnMatchWildcardsAcceptsEveryFillingWrongFalsely : Prop := fnMatchWildcardsAcceptsEveryFillingRow.holds Try.pinned (OpenSpec.ofChange fnMatchWildcardsAcceptsEveryFillingWrong)

/-- 'zzlaws_internal_policy_b1.FnAppendLineTypesKeepsTypesThenAddsNewLineTypes': WHATEVER THE INPUT: true; the input reads as it did. -/
def fnAppendLineTypesKeepsTypesThenAddsNewLineTypesSpec : ChangeSpec := { name := "fnAppendLineTypesKeepsTypesThenAddsNewLineTypes", fn := fun _ => fun
  | [d1, d2, d3, d4, d5] => { results := [.lit (.bool true)], args := [d1, d2, d3, d4, d5] }
  | _ => none }
def fnAppendLineTypesKeepsTypesThenAddsNewLineTypesRow : OpenClaim := { program := "qxb6603768a", sum := "99a8f3553b82dc7bfc9d076328accb875fdf17193472eaef6bab474a22e73a0c", func := "example.com/grantry/grantry/zzlaws_internal_policy_b1.FnAppendLineTypesKeepsTypesThenAddsNewLineTypes", spec := "fnAppendLineTypesKeepsTypesThenAddsNewLineTypes", apart := false }
def FnAppendLineTypesKeepsTypesThenAddsNewLineTypesSaid : Prop := fnAppendLineTypesKeepsTypesThenAddsNewLineTypesRow.holds Try.pinned (OpenSpec.ofChange fnAppendLineTypesKeepsTypesThenAddsNewLineTypesSpec)

/-- ITS FALSE NEIGHBOUR: 'it returns false'. Refute it at one input. -/
def fnAppendLineTypesKeepsTypesThenAddsNewLineTypesWrong : ChangeSpec := { name := "fnAppendLineTypesKeepsTypesThenAddsNewLineTypes", fn := fun _ => fun
  | [d1, d2, d3, d4, d5] => { results := [.lit (.bool false)], args := [d1, d2, d3, d4, d5] }
  | _ => none }
def FnAppendLineTypesKeepsTypesThenAddsNewLineTypesWrongFalsely : Prop := fnAppendLineTypesKeepsTypesThenAddsNewLineTypesRow.holds Try.pinned (OpenSpec.ofChange fnAppendLineTypesKeepsTypesThenAddsNewLineTypesWrong)

/-- 'zzlaws_internal_policy_b1.FnRemoveRuleRepeatedlyLeavesExactlyTheOtherRules': WHATEVER THE INPUT: true; the input reads as it did. -/
def fnRemoveRuleRepeatedlyLeavesExactlyTheOtherRulesSpec : ChangeSpec := { name := "fnRemoveRuleRepeatedlyLeavesExactlyTheOtherRules", fn := fun _ => fun
  | [d1, d2] => { results := [.lit (.bool true)], args := [d1, d2] }
  | _ => none }
def fnRemoveRuleRepeatedlyLeavesExactlyTheOtherRulesRow : OpenClaim := { program := "qxb6603768a", sum := "99a8f3553b82dc7bfc9d076328accb875fdf17193472eaef6bab474a22e73a0c", func := "example.com/grantry/grantry/zzlaws_internal_policy_b1.FnRemoveRuleRepeatedlyLeavesExactlyTheOtherRules", spec := "fnRemoveRuleRepeatedlyLeavesExactlyTheOtherRules", apart := false }
def FnRemoveRuleRepeatedlyLeavesExactlyTheOtherRulesSaid : Prop := fnRemoveRuleRepeatedlyLeavesExactlyTheOtherRulesRow.holds Try.pinned (OpenSpec.ofChange fnRemoveRuleRepeatedlyLeavesExactlyTheOtherRulesSpec)

/-- ITS FALSE NEIGHBOUR: 'it returns false'. Refute it at one input. -/
def fnRemoveRuleRepeatedlyLeavesExactlyTheOtherRulesWrong : ChangeSpec := { name := "fnRemoveRuleRepeatedlyLeavesExactlyTheOtherRules", fn := fun _ => fun
  | [d1, d2] => { results := [.lit (.bool false)], args := [d1, d2] }
  | _ => none }
def FnRemoveRuleRepeatedlyLeavesExactlyTheOtherRulesWrongFalsely : Prop := fnRemoveRuleRepeatedlyLeavesExactlyTheOtherRulesRow.holds Try.pinned (OpenSpec.ofChange fnRemoveRuleRepeatedlyLeavesExactlyTheOtherRulesWrong)

end Rows
end Go.Proofs.Qxb6603768a
