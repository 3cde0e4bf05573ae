/-
  NARROWER THAN 'FOR EVERY INPUT', by the rows' own cells (each row's printed sentence says how): PropParseFailureCases: laid · PropBlockCallPipeNotation: laid.
  DERIVED. THE GIVEN ROWS OF THIS SEAT. 2 by the template 'for every input the law returns true; each argument reads behind the call as it read before'; 0 by the template 'total and deterministic' (their statements: Qxb6002438aDoorTotals.lean).
  GIVEN WITH THE SEED: the statements are not yours to turn. If you find one false, say at which input.
  Laid BY PROGRAM, IN A SANDBOX (cutbox-rows.mjs): the forced cells as the released guide's own fill.sh prints them over the translation 241da64ef48dd705… (all of the seat's roots in one cut). By AI agents, Wed Nov 11 2026. No macro, syntax, notation, axiom, sorry.
-/
import Derived.Test.Qxb6002438aDoorChecked
import GoSem.PinnedTables
import GoSem.Claim
import GoSem.ClaimJoined
import GoSem.ClaimMapViews
import Derived.JoinedTies
import Derived.KernelRfl
namespace Go.Proofs.Qxb6002438aDoor
/- THE CELL 'sum', in the pinned program and in every row, IS THE sha256 OF THE DUMP (.gsa) THAT Qxb6002438aDoorProg.lean LOADS. Nothing in Lean hashes anything: it is a label: what it is worth is what the hold of that sum in a sandbox is worth. -/
noncomputable def Tryd.pinned : Pinned := { name := "qxb6002438adoor", sum := "241da64ef48dd70588e237b4c9af4533eba639e23944cbe9579d9a045afe1049", checked := Tryd.checked }
namespace Rows
def none {H : Type} : Left H := { results := [], args := [] }

/- WHAT THE LISTED PACKAGE-LEVEL VARIABLES READ AS WHEN THE CALL BEGINS. Each datum BY PROGRAM (the guide's laid-datum.mjs) off the statement by which the dump's own 'gosem.cut.vars' lays the variable. In a bare row this is a premise. The card (Qxb6002438aDoorCards.lean) ties it to the program's text. -/
def laid_unicode_utf8_acceptRanges {H : Type} : DataW H := .agg [.agg [.lit (.int .u8 128), .lit (.int .u8 191)], .agg [.lit (.int .u8 160), .lit (.int .u8 191)], .agg [.lit (.int .u8 128), .lit (.int .u8 159)], .agg [.lit (.int .u8 144), .lit (.int .u8 191)], .agg [.lit (.int .u8 128), .lit (.int .u8 143)], .agg [.lit (.int .u8 0), .lit (.int .u8 0)], .agg [.lit (.int .u8 0), .lit (.int .u8 0)], .agg [.lit (.int .u8 0), .lit (.int .u8 0)], .agg [.lit (.int .u8 0), .lit (.int .u8 0)], .agg [.lit (.int .u8 0), .lit (.int .u8 0)], .agg [.lit (.int .u8 0), .lit (.int .u8 0)], .agg [.lit (.int .u8 0), .lit (.int .u8 0)], .agg [.lit (.int .u8 0), .lit (.int .u8 0)], .agg [.lit (.int .u8 0), .lit (.int .u8 0)], .agg [.lit (.int .u8 0), .lit (.int .u8 0)], .agg [.lit (.int .u8 0), .lit (.int .u8 0)]]
/-- One of Go's own tables, pinned by name: the form's constant. -/
def laid_unicode_utf8_first : DataW Unit := Go.Pinned.utf8First

/-- 'zzlaws_pkg_syntax_c1.PropParseFailureCases': WHATEVER THE INPUT: true; the input reads as it did. -/
def propParseFailureCasesSpec : ChangeSpec := { name := "propParseFailureCases", fn := fun _ => fun
  | [d] => { results := [.lit (.bool true)], args := [d] }
  | _ => none }
def propParseFailureCasesRow : OpenClaim := { program := "qxb6002438adoor", sum := "241da64ef48dd70588e237b4c9af4533eba639e23944cbe9579d9a045afe1049", func := "example.com/acheron/acheron/zzlaws_pkg_syntax_c1.PropParseFailureCases", spec := "propParseFailureCases", inPlace := ["internal/bytealg.CountString", "internal/bytealg.IndexByteString", "internal/bytealg.IndexString", "internal/abi.NoEscape"], recurses := true, named := ["unicode/utf8.first", "unicode/utf8.acceptRanges", "internal/bytealg.MaxLen"], apart := false, laid := [("unicode/utf8.acceptRanges", laid_unicode_utf8_acceptRanges), ("unicode/utf8.first", laid_unicode_utf8_first)] }
def PropParseFailureCasesSaid : Prop := propParseFailureCasesRow.holds Tryd.pinned (OpenSpec.ofChange propParseFailureCasesSpec)

/-- ITS FALSE NEIGHBOUR: 'it returns false'. Refute it at one input. -/
def propParseFailureCasesWrong : ChangeSpec := { name := "propParseFailureCases", fn := fun _ => fun
  | [d] => { results := [.lit (.bool false)], args := [d] }
  | _ => none }
def PropParseFailureCasesWrongFalsely : Prop := propParseFailureCasesRow.holds Tryd.pinned (OpenSpec.ofChange propParseFailureCasesWrong)

/-- 'zzlaws_pkg_syntax_c1.PropBlockCallPipeNotation': WHATEVER THE INPUT: true; the input reads as it did. -/
def propBlockCallPipeNotationSpec : ChangeSpec := { name := "propBlockCallPipeNotation", fn := fun _ => fun
  | [d1, d2, d3] => { results := [.lit (.bool true)], args := [d1, d2, d3] }
  | _ => none }
def propBlockCallPipeNotationRow : OpenClaim := { program := "qxb6002438adoor", sum := "241da64ef48dd70588e237b4c9af4533eba639e23944cbe9579d9a045afe1049", func := "example.com/acheron/acheron/zzlaws_pkg_syntax_c1.PropBlockCallPipeNotation", spec := "propBlockCallPipeNotation", inPlace := ["internal/bytealg.CountString", "internal/bytealg.IndexByteString", "internal/bytealg.IndexString", "internal/abi.NoEscape"], unfollowed := true, recurses := true, named := ["unicode/utf8.first", "unicode/utf8.acceptRanges", "internal/bytealg.MaxLen"], apart := false, laid := [("unicode/utf8.acceptRanges", laid_unicode_utf8_acceptRanges), ("unicode/utf8.first", laid_unicode_utf8_first)] }
def PropBlockCallPipeNotationSaid : Prop := propBlockCallPipeNotationRow.holds Tryd.pinned (OpenSpec.ofChange propBlockCallPipeNotationSpec)

/-- ITS FALSE NEIGHBOUR: 'it returns false'. Refute it at one input. -/
def propBlockCallPipeNotationWrong : ChangeSpec := { name := "propBlockCallPipeNotation", fn := fun _ => fun
  | [d1, d2, d3] => { results := [.lit (.bool false)], args := [d1, d2, d3] }
  | _ => none }
def PropBlockCallPipeNotationWrongFalsely : Prop := propBlockCallPipeNotationRow.holds Tryd.pinned (OpenSpec.ofChange propBlockCallPipeNotationWrong)

end Rows
end Go.Proofs.Qxb6002438aDoor
