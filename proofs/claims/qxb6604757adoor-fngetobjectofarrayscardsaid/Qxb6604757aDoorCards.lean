/-
  DERIVED. GIVEN WITH THE SEED: THE CARDS: each row of Qxb6604757aDoorRows.lean that lists a variable, with what it lists TIED to the program's text (the seventh form; the later family's looks); each row that meets fmt, with fmt's text TOLD by the authors' own Lean function (tested against real Go, not proved from fmt's source: count such statements apart). THE CARD IS WHAT COUNTS. Prove the row's statement (the work); the ties are given (Qxb6604757aDoorTie.lean); close each card by the builder's one call (the guide's Derived/Test/ToyasCard.lean, 'card_holds'). Laid BY PROGRAM, IN A SANDBOX (cutbox-door.mjs). By AI agents, Wed Nov 11 2026. No macro, syntax, notation, axiom, sorry.
-/
import Derived.Test.Qxb6604757aDoorRows
import GoSem.ClaimSeven
namespace Go.Proofs.Qxb6604757aDoor
namespace Rows

/-- THE TIED CARD OF 'zzlaws_jsonpatch_b1.FnGetObjectOfArrays'. -/
def fnGetObjectOfArraysCard : Claim7 := { stood := { row := fnGetObjectOfArraysRow, standIns := [], harness := (true, "b541f3bbad2642207574a8312200f45615d5c6e45975da7bfcdcbbe7d127918c"), looks := true }, kinds := [], alts := [], laidByText := true, laidKinds := [.data, .data, .data, .data, .sentinel, .sentinel, .pinned], laidTests := true, laidLooks := .later }
def FnGetObjectOfArraysCardSaid : Prop := Claim7.holds Tryd.pinned (.plain (OpenSpec.ofChange fnGetObjectOfArraysSpec)) fnGetObjectOfArraysCard
end Rows
end Go.Proofs.Qxb6604757aDoor
