/-
  THE CARD OF PropParseFailureCases.
-/
import Derived.Test.Qxb6002438aDoorCards
import Derived.Test.Qxb6002438aDoorTie
import Derived.Test.Qxb6002438aDoorLaw
import Derived.ProofKit
import Derived.Lay
import Derived.MakeChecks
import Derived.Lib.LaidU8T
import Derived.PinnedBridge
import Derived.HandedShaped
import Derived.SevenTiedAt
namespace Go.Proofs.Qxb6002438aDoor
open Go.ChangeShapes Go.WideShapes Go.ChangeAt Go.RowKit Go.Lib
open Go.ChangeMaps (open_string shut_string)

theorem Tryd.own : ownKnob Tryd.prog.godebug = none := by kernel_rfl
theorem Tryd.laidOut : laidOutB Tryd.prog = true := by kernel_rfl
theorem acc_eq : (Rows.laid_unicode_utf8_acceptRanges : DataW Unit) = acceptData := by kernel_rfl
theorem u8X : U8Extra Tryd.prog Tryd.lays196_ren := ⟨by kernel_rfl, by kernel_rfl, by kernel_rfl, by kernel_rfl, by kernel_rfl, by kernel_rfl, by kernel_rfl⟩
theorem tabs_of_laid {w : World} (h : laidMet Tryd.prog Rows.propParseFailureCasesRow.laid w) : Utf8Tabs 0 1 w := by
  have r0 := Lib.laidMet.reads h (.head _)
  have r1 := Lib.laidMet.reads h (.tail _ (.head _))
  rw [acc_eq] at r0
  rw [show (Rows.laid_unicode_utf8_first : DataW Unit) = firstData from Pinned.utf8First_eq] at r1
  exact utf8Tabs_of_readsT (U8Types.of196 Tryd.lays196) u8X r1 r0

set_option maxRecDepth 100000 in
theorem lifted (os : Os) (started : os.Started) (H : Type) (enc : TypeId × Value → H) :
    ReturnsInHanded {} Tryd.checked os 3 .any (fun w args => (Rows.propParseFailureCasesSpec.pre enc Tryd.prog Tryd.f3 [] false w args ∧ laidMetH Tryd.prog Rows.propParseFailureCasesRow.laid w) ∧ sizedMet enc Tryd.prog Tryd.f3 (OpenSpec.ofChange Rows.propParseFailureCasesSpec) false w args)
      (Rows.propParseFailureCasesSpec.post enc Tryd.prog Tryd.f3 false true false false) := by
  refine returnsInHanded_of_calls (C := Tryd.checked) Tryd.own started (by kernel_rfl)
    (ChangeSpec.witness_shaped (enc := enc) (C := Tryd.checked) (os := os) (X := fun w _ => laidMetH Tryd.prog Rows.propParseFailureCasesRow.laid w) false (World.laidAll Tryd.prog os Rows.propParseFailureCasesRow.laid) #[.string ⟨#[]⟩] 8 (World.laidAll_os _ _ _)
      (World.shaped_of_ZipB (by kernel_rfl) (by kernel_rfl)) (by kernel_rfl) (by kernel_rfl) (by kernel_rfl)
      (by rw [MakeChecks.laidMetH_plain _ _ _ (by kernel_rfl)]; exact laidMet_laidAll _ (by kernel_rfl) (by kernel_rfl))) ?_
  intro w tape i _ hsh _ hok hpre hholds
  obtain ⟨_, _, _, fn', hfn', _, _, _, _, hval0⟩ := hok
  obtain rfl : fn' = Tryd.f3 := Option.some.inj (hfn'.symm.trans Tryd.func3)
  obtain ⟨⟨⟨ds, gs, before, hw, hc⟩, hx⟩, hz⟩ := hpre
  have hW := DataW.Whole.of_heap (w' := w.forCall tape i) (by rfl) hw
  have hL : laidMetH Tryd.prog Rows.propParseFailureCasesRow.laid (w.forCall tape i) := hx.of_heap (by rfl)
  have hsh' : (w.forCall tape i).ShapedOpen Tryd.prog := hsh
  obtain ⟨m, hm⟩ := Tryd.laysM146.s1_3 _ hsh'
  have key : Calls Tryd.prog 3 i.args (w.forCall tape i) fun e W' => ∃ v, e = .returned v ∧ Rows.propParseFailureCasesSpec.post enc Tryd.prog Tryd.f3 false true false false (w.forCall tape i) i.args v W' := by
    clear hw hx hz hholds hsh
    generalize w.forCall tape i = W at hW hL hm hval0 ⊢
    generalize i.args = args at hW hval0 ⊢
    have hval : ∀ (j : Nat) t v, Tryd.f3.params[j]? = some t → args[j]? = some v → Value.okWide Tryd.prog W .any w.heap.size t v := hval0
    have hW' := hW
    obtain ⟨p, q, hA0, hV, rfl, _, _⟩ := hW
    have hA : DataW.TrodAll enc Tryd.prog W 0 (fun _ => true) true Tryd.f3.params.toList args.toList ds p := hA0
    rw [Tryd.params3] at hA hval
    obtain ⟨v0, d0, rfl, rfl, h0⟩ := trodAll_one hA
    obtain ⟨rfl, rfl⟩ := trodVars_none hV
    obtain ⟨s0, rfl, rfl, rfl, w0⟩ := open_string Tryd.underlying9 (hval 0 9 v0 rfl rfl) h0
    rw [MakeChecks.laidMetH_plain _ _ _ (by kernel_rfl)] at hL
    refine (law_any s0 W m (by unfold maxLen at w0; omega) hm (tabs_of_laid hL)).mono fun e W' ⟨he, bel⟩ => ?_
    subst he
    exact ⟨_, rfl, _, _, _, [], _, [], hW', trodAll_mk1 (shut_bool Tryd.underlying4 _), trodAll_mk1 (shut_string Tryd.underlying9 w0), rfl, bel.frame _, fun h => by cases h⟩
  refine key.mono fun e W' ⟨v, he, hp⟩ => ?_
  subst he
  exact ChangeSpec.post_blind hp

theorem holds : Rows.PropParseFailureCasesSaid :=
  OpenClaim.holds_of_wide 3 Tryd.f3 rfl rfl rfl rfl rfl rfl rfl ⟨rfl, rfl, rfl, rfl, rfl⟩ rfl rfl rfl rfl rfl (by kernel_rfl) Tryd.func3 (by kernel_rfl)
    (of_decide_eq_true (by kernel_rfl)) (by unfold Func.isWrapper; rw [if_neg (of_decide_eq_false (by kernel_rfl))]; exact ⟨rfl, rfl⟩)
    (fun os started H enc _ => lifted os started H enc)
theorem fail_card : Rows.PropParseFailureCasesCardSaid :=
  Claim7.holds_tied_plain_at .later [] [.data, .pinned] true (true, "4dda55bfcc06bfbd9bb0ff528d243485d0973b9b16d9c879597882e4b1b2fd9e") true holds (fun _ h => by cases h) (by kernel_rfl) (fun _ h => by cases h) propParseFailureCases_row_tie rfl ⟨rfl, rfl⟩ (by kernel_rfl) rfl
    (fun f fn hf hfn => by
      obtain rfl : f = 3 := Option.some.inj ((show Tryd.prog.funcNamed Rows.propParseFailureCasesRow.func = some 3 by kernel_rfl).symm.trans hf) |>.symm
      obtain rfl : fn = Tryd.f3 := (Option.some.inj (Tryd.func3.symm.trans hfn)).symm
      exact ⟨by kernel_rfl, fun j t ht => by
        rw [Tryd.params3] at ht
        have hm : t ∈ [9] := by simpa using Array.mem_of_getElem? ht
        have hall : ([9].all fun u => !Tryd.prog.wantsStandIn u) = true := by kernel_rfl
        exact (show Tryd.prog.wantsStandIn t = false by simpa using List.all_eq_true.1 hall t hm)⟩)
    (by kernel_rfl)
end Go.Proofs.Qxb6002438aDoor
