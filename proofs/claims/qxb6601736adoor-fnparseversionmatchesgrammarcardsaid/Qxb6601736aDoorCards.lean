/-
  DERIVED. GIVEN WITH THE SEED: THE CARDS: each row of Qxb6601736aDoorRows.lean that lists a variable, with what it lists TIED to the program's text (the seventh form; the later family's looks); each row that meets fmt, with fmt's text TOLD by the authors' own Lean function (tested against real Go, not proved from fmt's source: count such statements apart). THE CARD IS WHAT COUNTS. Prove the row's statement (the work); the ties are given (Qxb6601736aDoorTie.lean); close each card by the builder's one call (the guide's Derived/Test/ToyasCard.lean, 'card_holds'). Laid BY PROGRAM, IN A SANDBOX (cutbox-door.mjs). By AI agents, Wed Nov 11 2026. No macro, syntax, notation, axiom, sorry.
-/
import Derived.Test.Qxb6601736aDoorRows
import GoSem.ClaimSeven
namespace Go.Proofs.Qxb6601736aDoor
namespace Rows

/-- THE TIED CARD OF 'zzlaws_internal_discovery_b1.FnParseVersionMatchesGrammar'. -/
def fnParseVersionMatchesGrammarCard : Claim7 := { stood := { row := fnParseVersionMatchesGrammarRow, standIns := [], harness := (true, "0d9a9195e204992747a5711a3f7b3d43e6170dbed044f8187ddd5d8676fd2aec"), looks := true }, kinds := [], alts := [], laidByText := true, laidKinds := [.data, .data, .data, .sentinel, .sentinel], laidTests := true, laidLooks := .later }
def FnParseVersionMatchesGrammarCardSaid : Prop := Claim7.holds Tryd.pinned (.plain (OpenSpec.ofChange fnParseVersionMatchesGrammarSpec)) fnParseVersionMatchesGrammarCard

/-- THE TIED CARD OF 'zzlaws_internal_discovery_b1.FnParseVersionReadsWhatIsWritten'. -/
def fnParseVersionReadsWhatIsWrittenCard : Claim7 := { stood := { row := fnParseVersionReadsWhatIsWrittenRow, standIns := [], harness := (true, "0d9a9195e204992747a5711a3f7b3d43e6170dbed044f8187ddd5d8676fd2aec"), looks := true }, kinds := [], alts := [], laidByText := true, laidKinds := [.data, .data, .data, .sentinel, .sentinel], laidTests := true, laidLooks := .later }
def FnParseVersionReadsWhatIsWrittenCardSaid : Prop := Claim7.holds Tryd.pinned (.plain (OpenSpec.ofChange fnParseVersionReadsWhatIsWrittenSpec)) fnParseVersionReadsWhatIsWrittenCard
end Rows
end Go.Proofs.Qxb6601736aDoor
