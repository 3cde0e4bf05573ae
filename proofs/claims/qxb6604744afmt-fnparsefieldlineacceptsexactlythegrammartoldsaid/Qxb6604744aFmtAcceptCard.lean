/-
  THE CARD OF FnParseFieldLineAcceptsExactlyTheGrammar. fmt's texts are told by the authors' own function; nothing here hangs on which text it is.
-/
import Derived.Test.Qxb6604744aFmtCards
import Derived.Test.Qxb6604744aFmtTie
import Derived.Test.Qxb6604744aFmtAccept
import Derived.ProofKit
import Derived.Lay
import Derived.MakeChecks
import Derived.Stop.JoinedTold
import Derived.SevenTiedAt
namespace Go.Proofs.Qxb6604744aFmt
open Go.ChangeShapes Go.WideShapes Go.ChangeAt Go.RowKit Go.Lib Go.Extern.Stop Go.Stop Go.Extern
open Go.ChangeMaps (open_string shut_string)

theorem Tryf.own : ownKnob Tryf.prog.godebug = none := by kernel_rfl
theorem Tryf.laidOut : laidOutB Tryf.prog = true := by kernel_rfl

/-- A start that fits, for every F: the world's shape asked in one pass. -/
theorem witness_told_zip {H : Type} {enc : TypeId × Value → H} {C : Checked} {os : Os} {f : FuncId} {fn : Func} {s : OpenSpec} {conds : List PathCond} {apart : Bool} {laid : List (String × DataW Unit)} (w0 : World) (args : Array Value) (hos : w0.os = os)
    (hs : ∀ tape : Tape, (w0.forCall tape ⟨#[], args, []⟩).Shaped C.prog)
    (hok : Input.okWideB C.prog (w0.forCall (fun _ _ => 0) ⟨#[], args, []⟩) f ⟨#[], args, []⟩ = true)
    (hrow : s.preRow enc C.prog fn conds apart laid (w0.forCall (fun _ _ => 0) ⟨#[], args, []⟩).memory args) (F : Stop.Interp) :
    ∃ (w : World) (tape : Tape) (i : Input), w.os = os ∧ (w.forCall tape i).Shaped C.prog ∧ i.vars = [] ∧ Input.okWide C.prog (w.forCall tape i) .any w.heap.size f i ∧
      s.preRow enc C.prog fn conds apart laid (w.forCall tape i).memory i.args ∧ ({} : Assume).holds C.prog (lone (Frame.enter C.prog f i.args .normal) [] (w.forCall tape i)) ∧ F.answers tape :=
  ⟨w0, F.over fun _ _ => 0, ⟨#[], args, []⟩, hos, hs _, (Input.okWide_of_okWideB (base := 0) hok).1, (Input.okWide_of_okWideB hok).2, hrow, by
    simp only [Assume.holds]
    exact ⟨by simp, by simp, by simp, by simp, by simp⟩, F.over_answers _⟩

set_option maxRecDepth 100000 in
theorem lifted (os : Os) (started : os.Started) (H : Type) (enc : TypeId × Value → H) :
    ReturnsInTold none {} Tryf.checked os 3 .any Input.okWide ((OpenSpec.ofChange Rows.fnParseFieldLineAcceptsExactlyTheGrammarSpec).preRow enc Tryf.prog Tryf.f3 Rows.fnParseFieldLineAcceptsExactlyTheGrammarRow.domain false Rows.fnParseFieldLineAcceptsExactlyTheGrammarRow.laid)
      (fun F => ((OpenSpec.ofChange Rows.fnParseFieldLineAcceptsExactlyTheGrammarSpec).at F).post enc Tryf.prog Tryf.f3 false true false false) (aloneAtReturn Tryf.prog) nothingAlways := by
  refine returnsInTold_of_row (C := Tryf.checked) (s := OpenSpec.ofChange Rows.fnParseFieldLineAcceptsExactlyTheGrammarSpec) (by kernel_rfl) Tryf.own started (by kernel_rfl) Tryf.func3
    (witness_told_zip (enc := enc) (C := Tryf.checked) (World.laidAll Tryf.prog os Rows.fnParseFieldLineAcceptsExactlyTheGrammarRow.laid) #[.string ⟨#[]⟩] (World.laidAll_os _ _ _) (fun _ => World.shaped_of_ZipB (by kernel_rfl) (by kernel_rfl)) (by kernel_rfl)
      (OpenSpec.preRow_of_B rfl 8 (by kernel_rfl) (by kernel_rfl) (by rw [MakeChecks.laidMetH_plain _ _ _ (by kernel_rfl)]; exact laidMet_laidAll _ (by kernel_rfl) (by kernel_rfl)))) ?_
  intro F W base args ds gs before _ hF hval0 hW _ _ _ _ _
  have hval : ∀ (j : Nat) t v, Tryf.f3.params[j]? = some t → args[j]? = some v → Value.okWide Tryf.prog W .any base t v := hval0
  have hW' := hW
  obtain ⟨p, q, hA0, hV0, rfl, _, _⟩ := hW
  have hA : DataW.TrodAll enc Tryf.prog W 0 (fun _ => true) true Tryf.f3.params.toList args.toList ds p := hA0
  rw [Tryf.params3] at hA hval
  obtain ⟨v0, d0, rfl, rfl, h0⟩ := trodAll_one hA
  obtain ⟨rfl, rfl⟩ := trodVars_none hV0
  obtain ⟨s0, rfl, rfl, rfl, w0⟩ := open_string Tryf.underlying9 (hval 0 9 v0 rfl rfl) h0
  clear hA0 hval0 hV0
  refine (accept_any F.told s0 W hF (by unfold maxLen at w0; omega)).mono fun e W' ⟨he, bel⟩ => ?_
  subst he
  exact ⟨_, rfl, _, _, _, [], _, [], hW', trodAll_mk1 (shut_bool Tryf.underlying4 _), trodAll_mk1 (shut_string Tryf.underlying9 w0), rfl, bel.frame _, fun h => by cases h⟩

theorem Tryf.stops : Tryf.pinned.checked.prog.stops = ["fmt.errorf"] := by kernel_rfl
theorem Tryf.stopKnobs : Tryf.pinned.checked.prog.stopKnobs = [] := by kernel_rfl
theorem Tryf.quiet (os : Os) : Stop.quiet Tryf.pinned.checked.prog os := by
  intro k hk
  rw [Tryf.stopKnobs] at hk
  cases hk

set_option maxRecDepth 100000 in
theorem accept_card : Rows.FnParseFieldLineAcceptsExactlyTheGrammarToldSaid :=
  Claim7.holds_of_told_tied_any_at .later 3 Tryf.f3 "fmt.errorf" [] [] _ _ _ _ _ (by kernel_rfl) rfl rfl rfl Tryf.laidOut (by kernel_rfl) rfl ⟨rfl, rfl, rfl, rfl, rfl, rfl, rfl⟩ rfl rfl (by kernel_rfl) (by kernel_rfl) Tryf.func3 (by kernel_rfl)
    (of_decide_eq_true (by kernel_rfl)) (by unfold Func.isWrapper; rw [if_neg (of_decide_eq_false (by kernel_rfl))]; exact ⟨rfl, rfl⟩) Tryf.stops.symm rfl Tryf.stopKnobs.symm (by kernel_rfl)
    (by kernel_rfl) (by kernel_rfl) (by kernel_rfl) (by kernel_rfl) (by kernel_rfl) (by kernel_rfl) (by kernel_rfl) (by kernel_rfl) (by kernel_rfl) rfl (by kernel_rfl) rfl rfl
    rfl rfl
    rfl (by kernel_rfl) (by kernel_rfl) (by kernel_rfl) (by decide) (by kernel_rfl) fnParseFieldLineAcceptsExactlyTheGrammar_row_tie
    (OpenClaim.moreEntering_of (by kernel_rfl) (by kernel_rfl) (by kernel_rfl) (by kernel_rfl) (by kernel_rfl) (by kernel_rfl) (by kernel_rfl) (by kernel_rfl) (by kernel_rfl) (by kernel_rfl))
    ⟨_, WideRow.started_initial, Tryf.quiet _⟩
    (fun os started _ H enc _ => lifted os started H enc)
end Go.Proofs.Qxb6604744aFmt
