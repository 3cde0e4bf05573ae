/-
  The law: PropParseFailureCases returns true.
-/
import Derived.Test.Qxb6002438aDoorParse
namespace Go.Proofs.Qxb6002438aDoor
open Go.RowKit

theorem ta30 (v : Value) (w : World) : (Instr.typeAssert (.iface 30 v) 27 30 true).run Tryd.prog w = .ok (.tuple #[v, .bool true]) w := by kernel_rfl
set_option maxRecDepth 100000 in
set_option maxHeartbeats 1000000 in
theorem bytes_no (s : ByteArray) (w : World) (hz : s.size ≤ 9223372036854775807) (hs : ¬ s.size ≤ 1048576) : Calls Tryd.prog 5 #[.string s] w fun e w' => e = .returned (.bool false) ∧ w' = w := by
  have h1 : (1048576 : Int) < (s.size : Int) := by omega
  go_enter Tryd.func5, Tryd.ntmps5
  go_wp2
  go_ret
  exact ⟨rfl, rfl⟩
set_option maxRecDepth 100000 in
set_option maxHeartbeats 1000000 in
theorem bytes_yes (s : ByteArray) (w : World) (hs : s.size ≤ 1048576) : Calls Tryd.prog 5 #[.string s] w fun e w' => e = .returned (.bool true) ∧ w' = w := by
  have h1 : ¬ (1048576 : Int) < (s.size : Int) := by omega
  go_enter Tryd.func5, Tryd.ntmps5
  go_wp2
  go_ret
  exact ⟨rfl, rfl⟩

set_option maxRecDepth 100000 in
set_option maxHeartbeats 4000000 in
theorem law_any (s : ByteArray) (w : World) (m : Int) (hz : s.size ≤ 9223372036854775807) (hm : w.cell? ⟨2, 0, none⟩ = some (.int .i64 m)) (hT : Lib.Utf8Tabs 0 1 w) :
    Calls Tryd.prog 3 #[.string s] w fun e w' => e = .returned (.bool true) ∧ Below w.heap.size w w' := by
  by_cases hs : s.size ≤ 1048576
  · have h1 : ¬ (1048576 : Int) < (s.size : Int) := by omega
    have HM := hide hm
    have HT := hide hT
    have hA : (if 0 < badLine s then some (badLine s) else R s 0 1 []) = answer s := rfl
    have HMO := hide (model_any s w hs (badLine s) (by have := badLine_le s; omega) (firstBad_any s w hs))
    rw [hA] at HMO
    clear hm hT hA
    go_enter Tryd.func3, Tryd.ntmps3
    go_wp2_with fail
    refine (bytes_yes s w hs).mono ?_
    rintro e w0 ⟨rfl, rfl⟩
    go_wp2_with fail
    refine (unhide HMO).mono ?_
    rintro e w1 ⟨he, hb1⟩
    have HP := hide (parse_any s w1 m hs ((hb1.cell (World.block_lt_of_cell? _ _ (unhide HM))).trans (unhide HM)) (Utf8Tabs_below (unhide HT) hb1))
    have HB1 := hide hb1
    clear hb1 HMO HM HT
    cases ha : answer s with
    | none =>
      rw [ha] at he
      have he' : e = .returned (.tuple #[.bool false, .int .i64 0]) := he
      have HA := hide ha
      clear ha he
      subst he'
      go_wp2_with fail
      refine (unhide HP).mono ?_
      rintro e w2 ⟨hb2, v1, v2, rfl, (⟨_, rfl⟩ | ⟨l, hl, _⟩)⟩
      · have HB2 := hide ((unhide HB1).trans (hb2.mono (unhide HB1).size))
        clear hb2
        go_wp2
        go_ret
        exact ⟨rfl, unhide HB2⟩
      · rw [unhide HA] at hl
        cases hl
    | some l =>
      rw [ha] at he
      have he' : e = .returned (.tuple #[.bool true, .int .i64 (l : Int)]) := he
      have HA := hide ha
      clear ha he
      subst he'
      go_wp2_with fail
      refine (unhide HP).mono ?_
      rintro e w2 ⟨hb2, v1, v2, rfl, (⟨hl, _⟩ | ⟨l', hl, eb, em, he1, rfl, he2⟩)⟩
      · rw [unhide HA] at hl
        cases hl
      · have HB2 := hide ((unhide HB1).trans (hb2.mono (unhide HB1).size))
        rw [unhide HA] at hl
        obtain rfl := Option.some.inj hl
        have c0 : w2.cell? ⟨eb, 0, none⟩ = some (.int .i64 (l : Int)) := by rw [cell_of_row w2 eb 0 _ _ _ he2]; rfl
        clear hb2 hl he2
        have ta := ta30
        go_wp2
        go_ret
        exact ⟨rfl, unhide HB2⟩
  · have h1 : (1048576 : Int) < (s.size : Int) := by omega
    clear hm hT
    go_enter Tryd.func3, Tryd.ntmps3
    go_wp2_with fail
    refine (bytes_no s w hz hs).mono ?_
    rintro e w0 ⟨rfl, rfl⟩
    go_wp2
    go_ret
    exact ⟨rfl, Below.refl _ _⟩
end Go.Proofs.Qxb6002438aDoor
