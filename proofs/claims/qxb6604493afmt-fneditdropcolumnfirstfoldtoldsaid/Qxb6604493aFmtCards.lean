/-
  DERIVED. GIVEN WITH THE SEED: THE CARDS: each row of Qxb6604493aFmtRows.lean that lists a variable, with what it lists TIED to the program's text (the seventh form; the later family's looks); each row that meets fmt, with fmt's text TOLD by the authors' own Lean function (tested against real Go, not proved from fmt's source: count such statements apart). THE CARD IS WHAT COUNTS. Prove the row's statement (the work); the ties are given (Qxb6604493aFmtTie.lean); close each card by the builder's one call (the guide's Derived/Test/ToyasCard.lean, 'card_holds'). Laid BY PROGRAM, IN A SANDBOX (cutbox-door.mjs). By AI agents, Wed Nov 11 2026. No macro, syntax, notation, axiom, sorry.
-/
import Derived.Test.Qxb6604493aFmtRows
import GoSem.ClaimSeven
namespace Go.Proofs.Qxb6604493aFmt
namespace Rows

/-- THE TOLD AND TIED CARD OF 'zzlaws_pkg_schema_b1.FnEditDropColumnFirstFold'. -/
def fnEditDropColumnFirstFoldCard : Claim7 := { stood := { row := fnEditDropColumnFirstFoldRow, standIns := [], harness := (true, "52974cb96c862a52fbac03bf49480b348390075db3c88cf702ba51afe9f47e3e"), looks := false }, told := true, laidByText := true, laidKinds := [.data, .data, .data, .pinned, .pinned], laidTests := true, laidLooks := .later, goes := false }
def FnEditDropColumnFirstFoldToldSaid : Prop := Claim7.holds Tryf.pinned (.plain (OpenSpec.ofChange fnEditDropColumnFirstFoldSpec)) fnEditDropColumnFirstFoldCard
/-- ITS FALSE NEIGHBOUR. Refute it at one input. -/
def FnEditDropColumnFirstFoldToldWrongFalsely : Prop := Claim7.holds Tryf.pinned (.plain (OpenSpec.ofChange fnEditDropColumnFirstFoldWrong)) fnEditDropColumnFirstFoldCard

/-- THE TOLD AND TIED CARD OF 'zzlaws_pkg_schema_b1.FnEditDropColumnEachInTurn'. -/
def fnEditDropColumnEachInTurnCard : Claim7 := { stood := { row := fnEditDropColumnEachInTurnRow, standIns := [], harness := (true, "52974cb96c862a52fbac03bf49480b348390075db3c88cf702ba51afe9f47e3e"), looks := false }, told := true, laidByText := true, laidKinds := [.data, .data, .data, .pinned, .pinned], laidTests := true, laidLooks := .later, goes := false }
def FnEditDropColumnEachInTurnToldSaid : Prop := Claim7.holds Tryf.pinned (.plain (OpenSpec.ofChange fnEditDropColumnEachInTurnSpec)) fnEditDropColumnEachInTurnCard
/-- ITS FALSE NEIGHBOUR. Refute it at one input. -/
def FnEditDropColumnEachInTurnToldWrongFalsely : Prop := Claim7.holds Tryf.pinned (.plain (OpenSpec.ofChange fnEditDropColumnEachInTurnWrong)) fnEditDropColumnEachInTurnCard
end Rows
end Go.Proofs.Qxb6604493aFmt
