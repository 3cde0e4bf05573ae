/-
  NARROWER THAN 'FOR EVERY INPUT', by the rows' own cells (each row's printed sentence says how): FnParseFieldLineAcceptsExactlyTheGrammar: laid · FnParseFieldLineRoundTripsACheckedField: laid.
  DERIVED. THE GIVEN ROWS OF THIS SEAT. 2 by the template 'for every input the law returns true; each argument reads behind the call as it read before'; 0 by the template 'total and deterministic' (their statements: Qxb6604744aFmtTotals.lean).
  GIVEN WITH THE SEED: the statements are not yours to turn. If you find one false, say at which input.
  Laid BY PROGRAM, IN A SANDBOX (cutbox-rows.mjs): the forced cells as the released guide's own fill.sh prints them over the translation 30b46a98fbf2033a… (all of the seat's roots in one cut). By AI agents, Wed Nov 11 2026. No macro, syntax, notation, axiom, sorry.
-/
import Derived.Test.Qxb6604744aFmtChecked
import GoSem.PinnedTables
import GoSem.Claim
import GoSem.ClaimJoined
import GoSem.ClaimMapViews
import Derived.JoinedTies
import Derived.KernelRfl
namespace Go.Proofs.Qxb6604744aFmt
/- THE CELL 'sum', in the pinned program and in every row, IS THE sha256 OF THE DUMP (.gsa) THAT Qxb6604744aFmtProg.lean LOADS. Nothing in Lean hashes anything: it is a label: what it is worth is what the hold of that sum in a sandbox is worth. -/
noncomputable def Tryf.pinned : Pinned := { name := "qxb6604744afmt", sum := "30b46a98fbf2033a3b1a3907e07445e2f330ab0065134c19570c4721e8177a15", checked := Tryf.checked }
namespace Rows
def none {H : Type} : Left H := { results := [], args := [] }

/- WHAT THE LISTED PACKAGE-LEVEL VARIABLES READ AS WHEN THE CALL BEGINS. Each datum BY PROGRAM (the guide's laid-datum.mjs) off the statement by which the dump's own 'gosem.cut.vars' lays the variable. In a bare row this is a premise. The card (Qxb6604744aFmtCards.lean) ties it to the program's text. -/
def laid_unicode_utf8_acceptRanges {H : Type} : DataW H := .agg [.agg [.lit (.int .u8 128), .lit (.int .u8 191)], .agg [.lit (.int .u8 160), .lit (.int .u8 191)], .agg [.lit (.int .u8 128), .lit (.int .u8 159)], .agg [.lit (.int .u8 144), .lit (.int .u8 191)], .agg [.lit (.int .u8 128), .lit (.int .u8 143)], .agg [.lit (.int .u8 0), .lit (.int .u8 0)], .agg [.lit (.int .u8 0), .lit (.int .u8 0)], .agg [.lit (.int .u8 0), .lit (.int .u8 0)], .agg [.lit (.int .u8 0), .lit (.int .u8 0)], .agg [.lit (.int .u8 0), .lit (.int .u8 0)], .agg [.lit (.int .u8 0), .lit (.int .u8 0)], .agg [.lit (.int .u8 0), .lit (.int .u8 0)], .agg [.lit (.int .u8 0), .lit (.int .u8 0)], .agg [.lit (.int .u8 0), .lit (.int .u8 0)], .agg [.lit (.int .u8 0), .lit (.int .u8 0)], .agg [.lit (.int .u8 0), .lit (.int .u8 0)]]
/-- One of Go's own tables, pinned by name: the form's constant. -/
def laid_unicode_utf8_first : DataW Unit := Go.Pinned.utf8First

/-- 'zzlaws_pkg_httpsig_b1.FnParseFieldLineAcceptsExactlyTheGrammar': WHATEVER THE INPUT: true; the input reads as it did. -/
def fnParseFieldLineAcceptsExactlyTheGrammarSpec : ChangeSpec := { name := "fnParseFieldLineAcceptsExactlyTheGrammar", fn := fun _ => fun
  | [d] => { results := [.lit (.bool true)], args := [d] }
  | _ => none }
def fnParseFieldLineAcceptsExactlyTheGrammarRow : OpenClaim := { program := "qxb6604744afmt", sum := "30b46a98fbf2033a3b1a3907e07445e2f330ab0065134c19570c4721e8177a15", func := "example.com/reattest/reattest/zzlaws_pkg_httpsig_b1.FnParseFieldLineAcceptsExactlyTheGrammar", spec := "fnParseFieldLineAcceptsExactlyTheGrammar", stops := ["fmt.errorf"], inPlace := ["internal/bytealg.IndexByteString", "internal/bytealg.IndexString", "fmt.errorf"], named := ["internal/bytealg.MaxLen", "unicode/utf8.first", "unicode/utf8.acceptRanges"], apart := false, laid := [("unicode/utf8.acceptRanges", laid_unicode_utf8_acceptRanges), ("unicode/utf8.first", laid_unicode_utf8_first)] }
/-- NO THEOREM (fmt's text is open here; it may be false): for the released tool's asking of the row's closed facts alone. THE STATEMENT IS 'FnParseFieldLineAcceptsExactlyTheGrammarToldSaid' (Qxb6604744aFmtCards.lean). -/
def FnParseFieldLineAcceptsExactlyTheGrammarFormAsk : Prop := fnParseFieldLineAcceptsExactlyTheGrammarRow.holds Tryf.pinned (OpenSpec.ofChange fnParseFieldLineAcceptsExactlyTheGrammarSpec)

/-- ITS FALSE NEIGHBOUR: 'it returns false'. Refute it at one input. -/
def fnParseFieldLineAcceptsExactlyTheGrammarWrong : ChangeSpec := { name := "fnParseFieldLineAcceptsExactlyTheGrammar", fn := fun _ => fun
  | [d] => { results := [.lit (.bool false)], args := [d] }
  | _ => none }
def FnParseFieldLineAcceptsExactlyTheGrammarWrongFormAsk : Prop := fnParseFieldLineAcceptsExactlyTheGrammarRow.holds Tryf.pinned (OpenSpec.ofChange fnParseFieldLineAcceptsExactlyTheGrammarWrong)

/-- 'zzlaws_pkg_httpsig_b1.FnParseFieldLineRoundTripsACheckedField': WHATEVER THE INPUT: true; the input reads as it did. -/
def fnParseFieldLineRoundTripsACheckedFieldSpec : ChangeSpec := { name := "fnParseFieldLineRoundTripsACheckedField", fn := fun _ => fun
  | [d1, d2] => { results := [.lit (.bool true)], args := [d1, d2] }
  | _ => none }
def fnParseFieldLineRoundTripsACheckedFieldRow : OpenClaim := { program := "qxb6604744afmt", sum := "30b46a98fbf2033a3b1a3907e07445e2f330ab0065134c19570c4721e8177a15", func := "example.com/reattest/reattest/zzlaws_pkg_httpsig_b1.FnParseFieldLineRoundTripsACheckedField", spec := "fnParseFieldLineRoundTripsACheckedField", stops := ["fmt.errorf"], inPlace := ["fmt.errorf", "internal/bytealg.IndexByteString", "internal/bytealg.IndexString"], named := ["unicode/utf8.first", "unicode/utf8.acceptRanges", "internal/bytealg.MaxLen"], apart := false, laid := [("unicode/utf8.acceptRanges", laid_unicode_utf8_acceptRanges), ("unicode/utf8.first", laid_unicode_utf8_first)] }
/-- NO THEOREM (fmt's text is open here; it may be false): for the released tool's asking of the row's closed facts alone. THE STATEMENT IS 'FnParseFieldLineRoundTripsACheckedFieldToldSaid' (Qxb6604744aFmtCards.lean). -/
def FnParseFieldLineRoundTripsACheckedFieldFormAsk : Prop := fnParseFieldLineRoundTripsACheckedFieldRow.holds Tryf.pinned (OpenSpec.ofChange fnParseFieldLineRoundTripsACheckedFieldSpec)

/-- ITS FALSE NEIGHBOUR: 'it returns false'. Refute it at one input. -/
def fnParseFieldLineRoundTripsACheckedFieldWrong : ChangeSpec := { name := "fnParseFieldLineRoundTripsACheckedField", fn := fun _ => fun
  | [d1, d2] => { results := [.lit (.bool false)], args := [d1, d2] }
  | _ => none }
def FnParseFieldLineRoundTripsACheckedFieldWrongFormAsk : Prop := fnParseFieldLineRoundTripsACheckedFieldRow.holds Tryf.pinned (OpenSpec.ofChange fnParseFieldLineRoundTripsACheckedFieldWrong)

end Rows
end Go.Proofs.Qxb6604744aFmt
