/-
  jsonpatch.Get over an object of arrays of strings.
-/
import Derived.Test.Qxb6604757aDoorMaps
import Derived.Test.Qxb6604757aDoorIndex
namespace Go.Proofs.Qxb6604757aDoor
open Go.RowKit Go.Lib

theorem ta32_32 (v : Value) (w : World) : (Instr.typeAssert (.iface 32 v) 20 32 true).run Tryd.prog w = .ok (.tuple #[v, .bool true]) w := by kernel_rfl
theorem ta33_32 (v : Value) (w : World) : (Instr.typeAssert (.iface 33 v) 20 32 true).run Tryd.prog w = .ok (.tuple #[.map none, .bool false]) w := by kernel_rfl
theorem ta9_32 (v : Value) (w : World) : (Instr.typeAssert (.iface 9 v) 20 32 true).run Tryd.prog w = .ok (.tuple #[.map none, .bool false]) w := by kernel_rfl
theorem ta0_32 (w : World) : (Instr.typeAssert .nilIface 20 32 true).run Tryd.prog w = .ok (.tuple #[.map none, .bool false]) w := by kernel_rfl
theorem ta33_33 (v : Value) (w : World) : (Instr.typeAssert (.iface 33 v) 20 33 true).run Tryd.prog w = .ok (.tuple #[v, .bool true]) w := by kernel_rfl
theorem ta9_33 (v : Value) (w : World) : (Instr.typeAssert (.iface 9 v) 20 33 true).run Tryd.prog w = .ok (.tuple #[.slice none 0 0, .bool false]) w := by kernel_rfl
theorem ta0_33 (w : World) : (Instr.typeAssert .nilIface 20 33 true).run Tryd.prog w = .ok (.tuple #[.slice none 0 0, .bool false]) w := by kernel_rfl
theorem ta9_9 (v : Value) (w : World) : (Instr.typeAssert (.iface 9 v) 20 9 true).run Tryd.prog w = .ok (.tuple #[v, .bool true]) w := by kernel_rfl
theorem ta0_9 (w : World) : (Instr.typeAssert .nilIface 20 9 true).run Tryd.prog w = .ok (.tuple #[.string ByteArray.empty, .bool false]) w := by kernel_rfl
attribute [local go_sem] ta32_32 ta33_32 ta9_32 ta0_32 ta33_33 ta9_33 ta0_33 ta9_9 ta0_9

/-- The member j's value: an array. -/
def arrV (B : Nat → Nat) (L : Nat → Nat) (j : Nat) : Value := .iface 33 (.slice (some ⟨B j, 0, none⟩) (L j) (L j))
/-- The arrays' elements in memory. -/
def Elems (w : World) (m : Nat) (B : Nat → Nat) (L : Nat → Nat) (S : Nat → Nat → ByteArray) : Prop := ∀ j, j < m → ∀ i, i < L j → w.cell? ⟨B j, i, none⟩ = some (.iface 9 (.string (S j i)))
theorem Elems.below {w w' : World} {m : Nat} {B : Nat → Nat} {L : Nat → Nat} {S : Nat → Nat → ByteArray} (h : Elems w m B L S) (hb : Below w.heap.size w w') : Elems w' m B L S :=
  fun j hj i hi => (hb.cell (World.block_lt_of_cell? _ _ (h j hj i hi))).trans (h j hj i hi)

def GetPost (r m q : Nat) (K P : Nat → ByteArray) (B L : Nat → Nat) (S : Nat → Nat → ByteArray) (w : World) (e : Ending) (w' : World) : Prop :=
  ((q = 0 ∧ e = .returned (.tuple #[.iface 32 (.map (some r)), .bool true])) ∨ (0 < q ∧ lastOf K (P 0) m = none ∧ e = .returned (.tuple #[.nilIface, .bool false])) ∨
    ∃ j, 0 < q ∧ lastOf K (P 0) m = some j ∧ ((q = 1 ∧ e = .returned (.tuple #[arrV B L j, .bool true])) ∨ (2 ≤ q ∧ ¬ (Canon (P 1).data.toList ∧ val 0 (P 1).data.toList < L j) ∧ e = .returned (.tuple #[.nilIface, .bool false])) ∨
      (q = 2 ∧ Canon (P 1).data.toList ∧ val 0 (P 1).data.toList < L j ∧ e = .returned (.tuple #[.iface 9 (.string (S j (val 0 (P 1).data.toList))), .bool true])) ∨ (3 ≤ q ∧ e = .returned (.tuple #[.nilIface, .bool false])))) ∧ Below w.heap.size w w'

set_option maxRecDepth 100000 in
set_option maxHeartbeats 2000000 in
theorem get_any (r m q c : Nat) (a : Option Addr) (K P : Nat → ByteArray) (B L : Nat → Nat) (S : Nat → Nat → ByteArray) (w : World) (hM : MapAt r K (arrV B L) m w) (hP : StrRow w a q P) (hPs : Lim q P) (hL : ∀ j, j < m → L j ≤ 1048576) (hS : Elems w m B L S) (hE : ErrVar w) :
    Calls Tryd.prog 11 #[.iface 32 (.map (some r)), .slice a q c] w fun e w' => GetPost r m q K P B L S w e w' := by
  have HM := hide hM
  have HP := hide hP
  have HPs := hide hPs
  have HL := hide hL
  have HS := hide hS
  have HE := hide hE
  have hq := hPs.1
  clear hM hP hPs hL hS hE
  go_enter Tryd.func11, Tryd.ntmps11
  go_wp2_with fail
  refine wp_loop_rounds 4 ?_
  rw [rounds_succ]
  by_cases q0 : q = 0
  · subst q0
    go_wp2
    go_ret2
    exact ⟨Or.inl ⟨rfl, rfl⟩, Below.refl _ _⟩
  · have hq0 : (0 : Int) < (q : Int) := by omega
    obtain ⟨b, off, rfl, hc0⟩ := (unhide HP) 0 (by omega)
    have hlook := (unhide HM).look (P 0)
    obtain ⟨p0, hp0⟩ : ∃ p, P 0 = p := ⟨_, rfl⟩
    rw [hp0] at hc0 hlook
    rw [Nat.add_zero] at hc0
    have Hp0 := hide hp0
    clear hp0
    cases hl : lastOf K p0 m with
    | none =>
      rw [hl] at hlook
      have Hl := hide hl
      clear hl
      go_wp2
      go_ret2
      exact ⟨Or.inr (Or.inl ⟨by omega, by rw [unhide Hp0]; exact unhide Hl, rfl⟩), Below.refl _ _⟩
    | some j =>
      rw [hl] at hlook
      have hjm := (lastOf_lt hl).1
      have hLj := (unhide HL) j hjm
      have Hl : Hid (lastOf K (P 0) m = some j) := by show _ = _; rw [unhide Hp0]; exact hl
      clear hl
      have Hpost : Hid (∀ e w', ((q = 1 ∧ e = .returned (.tuple #[arrV B L j, .bool true])) ∨ (2 ≤ q ∧ ¬ (Canon (P 1).data.toList ∧ val 0 (P 1).data.toList < L j) ∧ e = .returned (.tuple #[.nilIface, .bool false])) ∨
          (q = 2 ∧ Canon (P 1).data.toList ∧ val 0 (P 1).data.toList < L j ∧ e = .returned (.tuple #[.iface 9 (.string (S j (val 0 (P 1).data.toList))), .bool true])) ∨ (3 ≤ q ∧ e = .returned (.tuple #[.nilIface, .bool false]))) →
          Below w.heap.size w w' → GetPost r m q K P B L S w e w') := fun e w' h hb => ⟨Or.inr (Or.inr ⟨j, by omega, unhide Hl, h⟩), hb⟩
      have HSj := hide ((unhide HS) j hjm)
      clear HM HL HS Hl Hp0
      have hv : arrV B L j = .iface 33 (.slice (some ⟨B j, 0, none⟩) (L j) (L j)) := rfl
      simp only [] at hlook
      rw [hv] at hlook Hpost
      clear hv
      obtain ⟨Bj, hBj⟩ : ∃ x, B j = x := ⟨_, rfl⟩
      obtain ⟨Lj, hLj2⟩ : ∃ x, L j = x := ⟨_, rfl⟩
      rw [hBj, hLj2] at hlook Hpost
      rw [hBj, hLj2] at HSj
      rw [hLj2] at hLj
      clear hBj hLj2
      by_cases q1 : q = 1
      · subst q1
        go_wp2
        rw [rounds_succ]
        go_wp2
        go_ret2
        exact (unhide Hpost) _ _ (Or.inl ⟨by trivial, rfl⟩) (Below.refl _ _)
      · have hq1 : (1 : Int) < (q : Int) := by omega
        have hc1 : w.cell? ⟨b, off + 1, none⟩ = some (.string (P 1)) := by
          obtain ⟨b2, off2, ha, hc⟩ := (unhide HP) 1 (by omega)
          injection ha with ha
          injection ha with e1 e2
          subst e1 e2
          exact hc
        have hps := (unhide HPs).2 1 (by omega)
        obtain ⟨p1, hp1⟩ : ∃ p, P 1 = p := ⟨_, rfl⟩
        rw [hp1] at hc1 hps Hpost
        clear hp1
        go_wp2
        rw [rounds_succ]
        go_wp2_with fail
        refine (index_any p1 w hps (unhide HE)).mono ?_
        rintro e w1 ⟨⟨i, ok, rfl, hok, hno⟩, hb⟩
        have HB := hide hb
        clear hb
        cases ok with
        | false =>
          have HN : Hid (¬ (Canon p1.data.toList ∧ val 0 p1.data.toList < Lj)) := fun h => hno rfl ⟨h.1, by omega⟩
          clear hok hno
          go_wp2
          go_ret2
          exact (unhide Hpost) _ _ (Or.inr (Or.inl ⟨by omega, unhide HN, rfl⟩)) (unhide HB)
        | true =>
          obtain ⟨hcan, rfl⟩ := hok rfl
          have HC := hide hcan
          clear hok hno hcan
          by_cases hiL : val 0 p1.data.toList < Lj
          · have hel := (unhide HSj) _ hiL
            have hel' := ((unhide HB).cell (World.block_lt_of_cell? _ _ hel)).trans hel
            generalize val 0 p1.data.toList = iv at hiL hel hel' Hpost HC ⊢
            have hiL' : (iv : Int) < (Lj : Int) := by omega
            have hiL2 : ¬ (Lj : Int) ≤ (iv : Int) := by omega
            generalize S j iv = sv at hel' Hpost
            clear hel HSj
            by_cases q2 : q = 2
            · subst q2
              go_wp2
              rw [rounds_succ]
              go_wp2
              go_ret2
              exact (unhide Hpost) _ _ (Or.inr (Or.inr (Or.inl ⟨by trivial, unhide HC, hiL, rfl⟩))) (unhide HB)
            · have hq2 : (2 : Int) < (q : Int) := by omega
              have hc2 : ∃ p2, w1.cell? ⟨b, off + 2, none⟩ = some (.string p2) := by
                obtain ⟨b2, off2, ha, hc⟩ := (unhide HP) 2 (by omega)
                injection ha with ha
                injection ha with e1 e2
                subst e1 e2
                exact ⟨_, ((unhide HB).cell (World.block_lt_of_cell? _ _ hc)).trans hc⟩
              obtain ⟨p2, hc2⟩ := hc2
              go_wp2
              rw [rounds_succ]
              go_wp2
              go_ret2
              exact (unhide Hpost) _ _ (Or.inr (Or.inr (Or.inr ⟨by omega, rfl⟩))) (unhide HB)
          · have HN : Hid (¬ (Canon p1.data.toList ∧ val 0 p1.data.toList < Lj)) := fun h => hiL h.2
            have hiL2 : (Lj : Int) ≤ ((val 0 p1.data.toList : Nat) : Int) := by omega
            generalize ((val 0 p1.data.toList : Nat) : Int) = iv at hiL2 ⊢
            clear hiL
            go_wp2
            go_ret2
            exact (unhide Hpost) _ _ (Or.inr (Or.inl ⟨by omega, unhide HN, rfl⟩)) (unhide HB)
end Go.Proofs.Qxb6604757aDoor
