/-
  THE CARD OF FnGetObjectOfArrays.
-/
import Derived.Test.Qxb6604757aDoorCards
import Derived.Test.Qxb6604757aDoorTie
import Derived.Test.Qxb6604757aDoorLaw
import Derived.ProofKit
import Derived.Lay
import Derived.MakeChecks
import Derived.SliceStrings
import Derived.Stop.LaidErr
import Derived.Lib.LaidU8
import Derived.SevenTiedAt
namespace Go.Proofs.Qxb6604757aDoor
open Go.ChangeShapes Go.WideShapes Go.ChangeAt Go.RowKit Go.Lib

theorem Tryd.own : ownKnob Tryd.prog.godebug = none := by kernel_rfl
theorem Tryd.laidOut : laidOutB Tryd.prog = true := by kernel_rfl
theorem Tryd.cells9 : Tryd.prog.cellsOf 9 = 1 := by kernel_rfl
theorem Tryd.cells22 : Tryd.prog.cellsOf 22 = 1 := by kernel_rfl
theorem Tryd.cells89 : Tryd.prog.cellsOf 89 = 1 := by kernel_rfl
theorem Tryd.gER : Tryd.prog.globalNamed "strconv.ErrRange" = some 1 := by kernel_rfl
theorem Tryd.gERType : (Tryd.prog.globals[1]?).map (·.type) = some 44 := by kernel_rfl
/-- strconv.ErrRange holds an error. -/
theorem errVar_of_laid {W : World} (h : laidMet Tryd.prog Rows.fnGetObjectOfArraysRow.laid W) : ErrVar W := by
  have h1 := h.tail.tail.tail.tail
  obtain ⟨a1, s1, hv1, -, -, -⟩ := laid_sentinel h1 Tryd.gER Tryd.gERType Tryd.underlying44 (fun u hu => typeName_ptr_named (tp := 87) (nm := "errors.errorString") (by kernel_rfl) (by kernel_rfl) (by decide) u (hu.trans (congrArg some (by decide)))) Tryd.underlying87 Tryd.underlying89 rfl rfl Tryd.underlying9 Tryd.cells89 Tryd.cells9
  exact ⟨_, _, by have h0 := World.var?_cell Tryd.gER hv1 0; simpa using h0⟩

/-- The cells of a slice of strings, as the walks take it. -/
theorem strRow_cells {H : Type} {enc : TypeId × Value → H} {W : World} {fuel : Nat} {cs : List Value} {x : DataW H × List MemPlace}
    (hf : DataW.trod enc Tryd.prog W 0 (fun _ => true) true fuel 22 cs = some x) : ∃ a len cap S, cs = [.slice a len cap] ∧ StrRow W a len S ∧ len ≤ 9223372036854775807 := by
  rcases open_strings Tryd.underlying22 Tryd.underlying9 Tryd.cells9 hf with ⟨hcs, _⟩ | ⟨x, l, c, ss, hcs, _, hl, hm, hz, _, hcell, _⟩
  · exact ⟨none, 0, 0, fun _ => ByteArray.empty, hcs, fun i hi => by omega, by omega⟩
  · have hz' : ss.length = c := by simpa using hz
    refine ⟨some x, l, c, fun i => ss.getD i ByteArray.empty, hcs, fun i hi => ?_, by unfold maxLen at hm; omega⟩
    have hc := hcell i (by omega)
    obtain ⟨b, off, sp⟩ := x
    obtain rfl : sp = none := by
      have h0 := hcell 0 (by omega)
      have e0 : (⟨b, off, sp⟩ : Addr).add 0 = ⟨b, off, sp⟩ := by simp [Addr.add]
      rw [e0] at h0
      exact cell_spot h0
    rw [Addr.add_lit] at hc
    exact ⟨b, off, rfl, hc⟩
theorem strRow_of {H : Type} {enc : TypeId × Value → H} {W : World} {a : Option Addr} {len cap : Nat} {d : DataW H} {p : List MemPlace}
    (h : DataW.Trod enc Tryd.prog W 0 (fun _ => true) true 22 (.slice a len cap) d p) : ∃ S : Nat → ByteArray, StrRow W a len S ∧ len ≤ 9223372036854775807 := by
  obtain ⟨fuel, hf⟩ := h
  obtain ⟨a', l', c', S, hcs, h1, h2⟩ := strRow_cells hf
  simp [Value.cells] at hcs
  obtain ⟨rfl, rfl, rfl⟩ := hcs
  exact ⟨S, h1, h2⟩
theorem nestRow_of {H : Type} {enc : TypeId × Value → H} {W : World} {a : Option Addr} {len cap : Nat} {d : DataW H} {p : List MemPlace}
    (h : DataW.Trod enc Tryd.prog W 0 (fun _ => true) true 23 (.slice a len cap) d p) :
    ∃ (A : Nat → Option Addr) (L C : Nat → Nat) (S : Nat → Nat → ByteArray), NestRow W a len A L C S ∧ len ≤ 9223372036854775807 ∧ ∀ i, i < len → L i ≤ 9223372036854775807 := by
  obtain ⟨fuel, hf⟩ := h
  rcases DataW.trod_slice Tryd.underlying23 hf with ⟨hcs, _⟩ | ⟨a', l, c, el, rs, m, rfl, hc0, hx', _, hlc, hcm, hel, helem, hsp, _⟩
  · simp [Value.cells] at hcs
    obtain ⟨rfl, rfl, rfl⟩ := hcs
    exact ⟨fun _ => none, fun _ => 0, fun _ => 0, fun _ _ => ByteArray.empty, fun i hi => by omega, by omega, fun i hi => by omega⟩
  · simp [Value.cells] at hc0
    obtain ⟨rfl, rfl, rfl⟩ := hc0
    have each : ∀ i, ∃ t : Option Addr × Nat × Nat × (Nat → ByteArray), i < len → W.cell? (a'.add i) = some (.slice t.1 t.2.1 t.2.2.1) ∧ StrRow W t.1 t.2.1 t.2.2.2 ∧ t.2.1 ≤ 9223372036854775807 := by
      intro i
      by_cases hi : i < len
      · have h1 := helem i hi
        rw [Tryd.cells22, Nat.mul_one] at h1
        obtain ⟨b, hb⟩ : ∃ b, el[i]? = some b := ⟨el[i]'(by omega), List.getElem?_eq_getElem (by omega)⟩
        rw [hb] at h1
        obtain ⟨ce, hce, hte⟩ := Option.bind_eq_some_iff.1 h1
        obtain ⟨a1, l1, c1, S1, hcs, hS1, hl1⟩ := strRow_cells hte
        obtain ⟨_, _, hcc⟩ := World.cells?_some hce
        have h0 := hcc 0 (by omega)
        rw [hcs] at h0
        have e0 : (a'.add i).add 0 = a'.add i := by simp [Addr.add]
        rw [e0] at h0
        exact ⟨(a1, l1, c1, S1), fun _ => ⟨h0, hS1, hl1⟩⟩
      · exact ⟨(none, 0, 0, fun _ => ByteArray.empty), fun h => absurd h hi⟩
    obtain ⟨f, hfall⟩ := Classical.axiomOfChoice each
    refine ⟨fun i => (f i).1, fun i => (f i).2.1, fun i => (f i).2.2.1, fun i => (f i).2.2.2, fun i hi => ?_, by unfold maxLen at hcm; omega, fun i hi => (hfall i hi).2.2⟩
    obtain ⟨hc, hS1, _⟩ := hfall i hi
    obtain ⟨b, off, sp⟩ := a'
    obtain rfl : sp = none := by
      have h0 := (hfall 0 (by omega)).1
      have e0 : (⟨b, off, sp⟩ : Addr).add 0 = ⟨b, off, sp⟩ := by simp [Addr.add]
      rw [e0] at h0
      exact cell_spot h0
    rw [Addr.add_lit] at hc
    exact ⟨b, off, rfl, hc, hS1⟩

set_option maxRecDepth 100000 in
theorem lifted (os : Os) (started : os.Started) (H : Type) (enc : TypeId × Value → H) :
    ReturnsInHanded {} Tryd.checked os 3 .any (fun w args => (Rows.fnGetObjectOfArraysSpec.pre enc Tryd.prog Tryd.f3 [] false w args ∧ laidMetH Tryd.prog Rows.fnGetObjectOfArraysRow.laid w) ∧ sizedMet enc Tryd.prog Tryd.f3 (OpenSpec.ofChange Rows.fnGetObjectOfArraysSpec) false w args)
      (Rows.fnGetObjectOfArraysSpec.post enc Tryd.prog Tryd.f3 false true false false) := by
  refine returnsInHanded_of_change_and (C := Tryd.checked) (X := fun w _ => laidMetH Tryd.prog Rows.fnGetObjectOfArraysRow.laid w) (fun _ _ _ hh h => h.of_heap hh) Tryd.own started (by kernel_rfl) Tryd.func3
    (ChangeSpec.witness_shaped (enc := enc) (C := Tryd.checked) (os := os) (X := fun w _ => laidMetH Tryd.prog Rows.fnGetObjectOfArraysRow.laid w) false (World.laidAll Tryd.prog os Rows.fnGetObjectOfArraysRow.laid) #[.slice none 0 0, .slice none 0 0, .slice none 0 0] 8 (World.laidAll_os _ _ _)
      (World.shaped_of_ZipB (by kernel_rfl) (by kernel_rfl)) (by kernel_rfl) (by kernel_rfl) (by kernel_rfl)
      (by rw [MakeChecks.laidMetH_plain _ _ _ (by kernel_rfl)]; exact laidMet_laidAll _ (by kernel_rfl) (by kernel_rfl))) ?_
  intro W base args ds gs before hval0 hW _ _ hL _
  have hval : ∀ (j : Nat) t v, Tryd.f3.params[j]? = some t → args[j]? = some v → Value.okWide Tryd.prog W .any base t v := hval0
  have hW' := hW
  obtain ⟨p, q, hA0, hV, rfl, _, _⟩ := hW
  have hA : DataW.TrodAll enc Tryd.prog W 0 (fun _ => true) true Tryd.f3.params.toList args.toList ds p := hA0
  rw [Tryd.params3] at hA hval
  obtain ⟨v0, v1, v2, d0, d1, d2, p0, p1, p2, rfl, rfl, rfl, h0, h1, h2⟩ := trodAll_three hA
  obtain ⟨rfl, rfl⟩ := trodVars_none hV
  obtain ⟨a0, len0, cap0, rfl⟩ := okWide_slice Tryd.underlying22 (hval 0 22 v0 rfl rfl)
  obtain ⟨a1, len1, cap1, rfl⟩ := okWide_slice Tryd.underlying23 (hval 1 23 v1 rfl rfl)
  obtain ⟨a2, len2, cap2, rfl⟩ := okWide_slice Tryd.underlying22 (hval 2 22 v2 rfl rfl)
  have lt0 : ∀ x ∈ p0, x.block < W.heap.size := by obtain ⟨m, hm⟩ := h0; exact DataW.trod_lt m _ _ _ hm
  have lt1 : ∀ x ∈ p1, x.block < W.heap.size := by obtain ⟨m, hm⟩ := h1; exact DataW.trod_lt m _ _ _ hm
  have lt2 : ∀ x ∈ p2, x.block < W.heap.size := by obtain ⟨m, hm⟩ := h2; exact DataW.trod_lt m _ _ _ hm
  obtain ⟨K, hK, hn⟩ := strRow_of h0
  obtain ⟨A, L, C, S, hN, hm, hLs⟩ := nestRow_of h1
  obtain ⟨P, hP, hq⟩ := strRow_of h2
  rw [MakeChecks.laidMetH_plain _ _ _ (by kernel_rfl)] at hL
  have hE := errVar_of_laid hL
  refine (law_any a0 len0 cap0 K a1 len1 cap1 A L C S a2 len2 cap2 P W hn hm hq hLs hK hN hP hE).mono fun e W' ⟨he, bel⟩ => ?_
  subst he
  exact ⟨_, rfl, _, _, _, [], _, [], hW', trodAll_mk1 (shut_bool Tryd.underlying4 _), trodAll_mk3 (Below.trod Tryd.laidOut (by kernel_rfl) (of_decide_eq_true (by kernel_rfl)) h0 bel lt0) (Below.trod Tryd.laidOut (by kernel_rfl) (of_decide_eq_true (by kernel_rfl)) h1 bel lt1) (Below.trod Tryd.laidOut (by kernel_rfl) (of_decide_eq_true (by kernel_rfl)) h2 bel lt2), rfl, bel.frame _, fun h => by cases h⟩

theorem holds : Rows.FnGetObjectOfArraysSaid :=
  OpenClaim.holds_of_wide 3 Tryd.f3 rfl rfl rfl rfl rfl rfl rfl ⟨rfl, rfl, rfl, rfl, rfl⟩ rfl rfl rfl rfl rfl (by kernel_rfl) Tryd.func3 (by kernel_rfl)
    (of_decide_eq_true (by kernel_rfl)) (by unfold Func.isWrapper; rw [if_neg (of_decide_eq_false (by kernel_rfl))]; exact ⟨rfl, rfl⟩)
    (fun os started H enc _ => lifted os started H enc)
theorem get_card : Rows.FnGetObjectOfArraysCardSaid :=
  Claim7.holds_tied_plain_at .later [] [.data, .data, .data, .data, .sentinel, .sentinel, .pinned] true (true, "b541f3bbad2642207574a8312200f45615d5c6e45975da7bfcdcbbe7d127918c") true holds (fun _ h => by cases h) (by kernel_rfl) (fun _ h => by cases h) fnGetObjectOfArrays_row_tie rfl ⟨rfl, rfl⟩ (by kernel_rfl) rfl
    (fun f fn hf hfn => by
      obtain rfl : f = 3 := Option.some.inj ((show Tryd.prog.funcNamed Rows.fnGetObjectOfArraysRow.func = some 3 by kernel_rfl).symm.trans hf) |>.symm
      obtain rfl : fn = Tryd.f3 := (Option.some.inj (Tryd.func3.symm.trans hfn)).symm
      exact ⟨by kernel_rfl, fun j t ht => by
        rw [Tryd.params3] at ht
        have hm : t ∈ [22, 23, 22] := by simpa using Array.mem_of_getElem? ht
        have hall : ([22, 23, 22].all fun u => !Tryd.prog.wantsStandIn u) = true := by kernel_rfl
        exact (show Tryd.prog.wantsStandIn t = false by simpa using List.all_eq_true.1 hall t hm)⟩)
    (by kernel_rfl)
end Go.Proofs.Qxb6604757aDoor
