/-
  DERIVED. GIVEN WITH THE SEED: THE CARDS: each row of Qxb6002438aDoorRows.lean that lists a variable, with what it lists TIED to the program's text (the seventh form; the later family's looks); each row that meets fmt, with fmt's text TOLD by the authors' own Lean function (tested against real Go, not proved from fmt's source: count such statements apart). THE CARD IS WHAT COUNTS. Prove the row's statement (the work); the ties are given (Qxb6002438aDoorTie.lean); close each card by the builder's one call (the guide's Derived/Test/ToyasCard.lean, 'card_holds'). Laid BY PROGRAM, IN A SANDBOX (cutbox-door.mjs). By AI agents, Wed Nov 11 2026. No macro, syntax, notation, axiom, sorry.
-/
import Derived.Test.Qxb6002438aDoorRows
import GoSem.ClaimSeven
namespace Go.Proofs.Qxb6002438aDoor
namespace Rows

/-- THE TIED CARD OF 'zzlaws_pkg_syntax_c1.PropParseFailureCases'. -/
def propParseFailureCasesCard : Claim7 := { stood := { row := propParseFailureCasesRow, standIns := [], harness := (true, "4dda55bfcc06bfbd9bb0ff528d243485d0973b9b16d9c879597882e4b1b2fd9e"), looks := true }, kinds := [], alts := [], laidByText := true, laidKinds := [.data, .pinned], laidTests := true, laidLooks := .later }
def PropParseFailureCasesCardSaid : Prop := Claim7.holds Tryd.pinned (.plain (OpenSpec.ofChange propParseFailureCasesSpec)) propParseFailureCasesCard

/-- THE TIED CARD OF 'zzlaws_pkg_syntax_c1.PropBlockCallPipeNotation'. -/
def propBlockCallPipeNotationCard : Claim7 := { stood := { row := propBlockCallPipeNotationRow, standIns := [], harness := (true, "4dda55bfcc06bfbd9bb0ff528d243485d0973b9b16d9c879597882e4b1b2fd9e"), looks := true }, kinds := [], alts := [], laidByText := true, laidKinds := [.data, .pinned], laidTests := true, laidLooks := .later }
def PropBlockCallPipeNotationCardSaid : Prop := Claim7.holds Tryd.pinned (.plain (OpenSpec.ofChange propBlockCallPipeNotationSpec)) propBlockCallPipeNotationCard
end Rows
end Go.Proofs.Qxb6002438aDoor
