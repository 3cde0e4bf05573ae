/-
  From the row's listed variables to the tables in memory.
-/
import Derived.Test.Qxb6604493aFmtSimple
import Derived.PinnedBridge
import Derived.Lib.LaidCase
import Derived.Lib.LaidU8
import Derived.ProofKit
namespace Go.Proofs.Qxb6604493aFmt
open Go.RowKit Go.Lib Go.Shelf

def ascD : DataW Unit := tabData .u16 (ascT.map fun (n : Nat) => (n : Int))
def pairD (p : Nat × Nat) : DataW Unit := .agg [.lit (.int .u16 (p.1 : Int)), .lit (.int .u16 (p.2 : Int))]
def orbD : DataW Unit := .slice (orbT.map pairD) []
theorem asc_eq : (Rows.laid_unicode_asciiFold : DataW Unit) = ascD := by kernel_rfl
theorem orb_eq : (Rows.laid_unicode_caseOrbit : DataW Unit) = orbD := by kernel_rfl
theorem acc_eq : (Rows.laid_unicode_utf8_acceptRanges : DataW Unit) = acceptData := by kernel_rfl

theorem Tryf.cells88 : Tryf.prog.cellsOf 88 = 1 := by kernel_rfl
theorem Tryf.cells89 : Tryf.prog.cellsOf 89 = 128 := by kernel_rfl
theorem Tryf.cells93 : Tryf.prog.cellsOf 93 = 2 := by kernel_rfl

theorem caseX : CaseExtra Tryf.prog Tryf.lays158_ren := ⟨by kernel_rfl, by kernel_rfl, by kernel_rfl, by kernel_rfl, by kernel_rfl, by kernel_rfl⟩
theorem u8X : U8Extra Tryf.prog Tryf.lays158_ren := ⟨by kernel_rfl, by kernel_rfl, by kernel_rfl, by kernel_rfl, by kernel_rfl, by kernel_rfl, by kernel_rfl⟩

theorem pair_cells {w : World} {fuel : Nat} {cs : List Value} {p : Nat × Nat} {ps : List MemPlace}
    (h : DataW.trod (fun _ => ()) Tryf.prog w 0 (fun _ => true) false fuel 93 cs = some (pairD p, ps)) : cs = [.int .u16 (p.1 : Int), .int .u16 (p.2 : Int)] := by
  obtain ⟨xs, n, rfl, hx, hl, hxl, hall⟩ := DataW.trod_struct Tryf.underlying93 h
  rw [Tryf.cells93] at hl
  have hx2 : xs.map (·.1) = [.lit (.int .u16 (p.1 : Int)), .lit (.int .u16 (p.2 : Int))] := by
    have := congrArg Prod.fst hx
    simpa [pairD] using this.symm
  obtain ⟨x0, x1, rfl⟩ : ∃ x0 x1, xs = [x0, x1] := by
    match xs, hx2 with
    | [x0, x1], _ => exact ⟨x0, x1, rfl⟩
  simp only [List.map_cons, List.map_nil, List.cons.injEq, and_true] at hx2
  obtain ⟨e0, e1⟩ := hx2
  have f0 := hall 0 _ rfl
  have f1 := hall 1 _ rfl
  change DataW.trod _ _ _ _ _ _ _ 88 ((cs.drop 0).take (Tryf.prog.cellsOf 88)) = some x0 at f0
  change DataW.trod _ _ _ _ _ _ _ 88 ((cs.drop 1).take (Tryf.prog.cellsOf 88)) = some x1 at f1
  rw [Tryf.cells88] at f0 f1
  have g0 : cs[0]? = some (.int .u16 (p.1 : Int)) := by
    obtain ⟨z, hz, hx', _⟩ := DataW.trod_int Tryf.underlying88 f0
    rw [hx'] at e0
    cases e0
    exact at_of_take hz
  have g1 : cs[1]? = some (.int .u16 (p.2 : Int)) := by
    obtain ⟨z, hz, hx', _⟩ := DataW.trod_int Tryf.underlying88 f1
    rw [hx'] at e1
    cases e1
    exact at_of_take hz
  obtain ⟨c0, c1, rfl⟩ : ∃ c0 c1, cs = [c0, c1] := by
    rcases cs with _ | ⟨c0, _ | ⟨c1, _ | ⟨c2, r⟩⟩⟩
    · simp at hl
    · simp at hl
    · exact ⟨c0, c1, rfl⟩
    · simp at hl
  have e2 : c0 = .int .u16 (p.1 : Int) := Option.some.inj g0
  have e3 : c1 = .int .u16 (p.2 : Int) := Option.some.inj g1
  rw [e2, e3]

set_option maxRecDepth 100000 in
theorem orb_of_reads {w : World} {n : String} (hn : Tryf.prog.globalNamed n = some 1) (h : VarReads Tryf.prog w n orbD) :
    ∃ R o c, w.cell? ⟨1, 0, none⟩ = some (.slice (some ⟨R, o, none⟩) 94 c) ∧
      ∀ i, i < 94 → w.cell? ⟨R, o + i * 2, none⟩ = some (.int .u16 ((orbT.getD i (0, 0)).1 : Nat)) ∧ w.cell? ⟨R, o + i * 2 + 1, none⟩ = some (.int .u16 ((orbT.getD i (0, 0)).2 : Nat)) := by
  obtain ⟨g, t, cs, fuel, p, hg, hty, hvar, hd⟩ := h
  obtain rfl := Option.some.inj (hn.symm.trans hg)
  obtain rfl := Option.some.inj ((show (Tryf.prog.globals[1]?).map (·.type) = some 90 by kernel_rfl).symm.trans hty)
  rcases DataW.trod_slice Tryf.underlying90 hd with ⟨_, hx'⟩ | ⟨a', len, cap, el, rs, m, rfl, hc0, hx', _, hlc, _, hel, helem, hsp, _⟩
  · cases hx'
  have e0 := congrArg Prod.fst hx'
  simp only [orbD, DataW.slice.injEq] at e0
  obtain ⟨eE, eR⟩ := e0
  have hlen : len = 94 := by
    have := congrArg List.length eE
    rw [List.length_map, List.length_map, orbT_length] at this
    omega
  subst hlen
  have hrow : ∀ i, i < 94 → ∀ j, j < 2 → w.cell? ((a'.add (i * 2)).add j) = ([.int .u16 ((orbT.getD i (0, 0)).1 : Int), .int .u16 ((orbT.getD i (0, 0)).2 : Int)] : List Value)[j]? := by
    intro i hi j hj
    have h1 := helem i hi
    rw [Tryf.cells93] at h1
    obtain ⟨b, hb⟩ : ∃ b, el[i]? = some b := ⟨el[i]'(by omega), List.getElem?_eq_getElem (by omega)⟩
    rw [hb] at h1
    obtain ⟨ce, hce, hte⟩ := Option.bind_eq_some_iff.1 h1
    have hb1 : b.1 = pairD (orbT.getD i (0, 0)) := by
      have := congrArg (·[i]?) eE
      simp only [List.getElem?_map, hb, Option.map_some] at this
      have hi' : i < orbT.length := by rw [orbT_length]; exact hi
      rw [List.getElem?_eq_getElem hi'] at this
      simp only [Option.map_some, Option.some.injEq] at this
      rw [← this, List.getD_eq_getElem?_getD, List.getElem?_eq_getElem hi']
      rfl
    have hcs := pair_cells (ps := b.2) (by rw [← hb1]; exact hte)
    obtain ⟨_, _, hcc⟩ := World.cells?_some hce
    rw [hcc j hj, hcs]
  obtain ⟨R, oR, sR⟩ := a'
  obtain rfl : sR = none := by
    have h00 := hrow 0 (by omega) 0 (by omega)
    have : (Addr.add (Addr.add ⟨R, oR, sR⟩ (0 * 2)) 0) = ⟨R, oR, sR⟩ := by simp [Addr.add]
    rw [this] at h00
    exact cell_spot h00
  refine ⟨R, oR, cap, ?_, fun i hi => ?_⟩
  · rw [World.var?_cell hg hvar 0, ← Array.getElem?_toList, hc0]
    rfl
  · have k0 := hrow i hi 0 (by omega)
    have k1 := hrow i hi 1 (by omega)
    rw [Addr.add_lit, Addr.add_lit] at k0 k1
    exact ⟨by simpa using k0, by simpa using k1⟩

theorem asc_of_reads {w : World} {n : String} (hn : Tryf.prog.globalNamed n = some 0) (h : VarReads Tryf.prog w n ascD) (i : Nat) (hi : i < 128) : w.cell? ⟨0, i, none⟩ = some (.int .u16 (ascT.getD i 0 : Nat)) := by
  obtain ⟨g, t, cs, fuel, p, hg, hty, hvar, hd⟩ := h
  obtain rfl := Option.some.inj (hn.symm.trans hg)
  obtain rfl := Option.some.inj ((show (Tryf.prog.globals[0]?).map (·.type) = some 89 by kernel_rfl).symm.trans hty)
  have hcs := cells_of_tab Tryf.underlying89 Tryf.underlying88 Tryf.cells88 Tryf.cells89 hd
  rw [World.var?_cell hg hvar i, ← Array.getElem?_toList, hcs]
  have hi' : i < ascT.length := by rw [ascT_length]; exact hi
  simp [hi', List.getD_eq_getElem?_getD]

theorem tabs_of_laid {w : World} (h : laidMet Tryf.prog Rows.fnEditDropColumnEachInTurnRow.laid w) : FoldTabs w ∧ Utf8Tabs 3 4 w := by
  have r0 := Lib.laidMet.reads h (.head _)
  have r1 := Lib.laidMet.reads h (.tail _ (.head _))
  have r2 := Lib.laidMet.reads h (.tail _ (.tail _ (.head _)))
  have r3 := Lib.laidMet.reads h (.tail _ (.tail _ (.tail _ (.head _))))
  have r4 := Lib.laidMet.reads h (.tail _ (.tail _ (.tail _ (.tail _ (.head _)))))
  rw [acc_eq] at r0
  rw [asc_eq] at r1
  rw [orb_eq] at r2
  rw [show (Rows.laid_unicode_CaseRanges : DataW Unit) = caseData from Pinned.caseRanges_eq] at r3
  rw [show (Rows.laid_unicode_utf8_first : DataW Unit) = firstData from Pinned.utf8First_eq] at r4
  have c3 := caseVar_of_reads { Tryf.lays158 with } (by kernel_rfl) caseX r3
  have u := utf8Tabs_of_reads { Tryf.lays158 with } u8X r4 r0
  exact ⟨⟨fun i hi => asc_of_reads (by kernel_rfl) r1 i hi, orb_of_reads (by kernel_rfl) r2, c3⟩, u⟩
end Go.Proofs.Qxb6604493aFmt
