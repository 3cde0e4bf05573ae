/-
  DERIVED. GIVEN WITH THE SEED: THE CARDS: each row of Qxb6604744aFmtRows.lean that lists a variable, with what it lists TIED to the program's text (the seventh form; the later family's looks); each row that meets fmt, with fmt's text TOLD by the authors' own Lean function (tested against real Go, not proved from fmt's source: count such statements apart). THE CARD IS WHAT COUNTS. Prove the row's statement (the work); the ties are given (Qxb6604744aFmtTie.lean); close each card by the builder's one call (the guide's Derived/Test/ToyasCard.lean, 'card_holds'). Laid BY PROGRAM, IN A SANDBOX (cutbox-door.mjs). By AI agents, Wed Nov 11 2026. No macro, syntax, notation, axiom, sorry.
-/
import Derived.Test.Qxb6604744aFmtRows
import GoSem.ClaimSeven
namespace Go.Proofs.Qxb6604744aFmt
namespace Rows

/-- THE TOLD AND TIED CARD OF 'zzlaws_pkg_httpsig_b1.FnParseFieldLineAcceptsExactlyTheGrammar'. -/
def fnParseFieldLineAcceptsExactlyTheGrammarCard : Claim7 := { stood := { row := fnParseFieldLineAcceptsExactlyTheGrammarRow, standIns := [], harness := (true, "79f698ef41bbf621d7b0acfa4be86f2bd878610dbcd27e9dbba3b5586f6f3e86"), looks := false }, told := true, laidByText := true, laidKinds := [.data, .pinned], laidTests := true, laidLooks := .later, goes := false }
def FnParseFieldLineAcceptsExactlyTheGrammarToldSaid : Prop := Claim7.holds Tryf.pinned (.plain (OpenSpec.ofChange fnParseFieldLineAcceptsExactlyTheGrammarSpec)) fnParseFieldLineAcceptsExactlyTheGrammarCard
/-- ITS FALSE NEIGHBOUR. Refute it at one input. -/
def FnParseFieldLineAcceptsExactlyTheGrammarToldWrongFalsely : Prop := Claim7.holds Tryf.pinned (.plain (OpenSpec.ofChange fnParseFieldLineAcceptsExactlyTheGrammarWrong)) fnParseFieldLineAcceptsExactlyTheGrammarCard

/-- THE TOLD AND TIED CARD OF 'zzlaws_pkg_httpsig_b1.FnParseFieldLineRoundTripsACheckedField'. -/
def fnParseFieldLineRoundTripsACheckedFieldCard : Claim7 := { stood := { row := fnParseFieldLineRoundTripsACheckedFieldRow, standIns := [], harness := (true, "79f698ef41bbf621d7b0acfa4be86f2bd878610dbcd27e9dbba3b5586f6f3e86"), looks := false }, told := true, laidByText := true, laidKinds := [.data, .pinned], laidTests := true, laidLooks := .later, goes := false }
def FnParseFieldLineRoundTripsACheckedFieldToldSaid : Prop := Claim7.holds Tryf.pinned (.plain (OpenSpec.ofChange fnParseFieldLineRoundTripsACheckedFieldSpec)) fnParseFieldLineRoundTripsACheckedFieldCard
/-- ITS FALSE NEIGHBOUR. Refute it at one input. -/
def FnParseFieldLineRoundTripsACheckedFieldToldWrongFalsely : Prop := Claim7.holds Tryf.pinned (.plain (OpenSpec.ofChange fnParseFieldLineRoundTripsACheckedFieldWrong)) fnParseFieldLineRoundTripsACheckedFieldCard
end Rows
end Go.Proofs.Qxb6604744aFmt
