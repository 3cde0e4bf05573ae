/-
  The checks on one byte, and the check on a token.
-/
import Derived.Test.Qxb6604744aFmtRows
import Derived.Test.Qxb6604744aFmtPlain
import Derived.WalkKit
import Derived.WalkSpells
import Derived.WalkLawsBesides
namespace Go.Proofs.Qxb6604744aFmt
open Go.RowKit
theorem hide {p : Prop} (h : p) : Hid p := h
theorem unhide {p : Prop} (h : Hid p) : p := h

/-- A yes or no that tells whether p holds. -/
def Says (p : Prop) (e : Ending) : Prop := ∃ r : Bool, e = .returned (.bool r) ∧ (r = true ↔ p)
theorem Says.yes {p : Prop} (h : p) : Says p (.returned (.bool true)) := ⟨true, rfl, fun _ => h, fun _ => rfl⟩
theorem Says.no {p : Prop} (h : ¬ p) : Says p (.returned (.bool false)) := ⟨false, rfl, fun h => by (cases h), fun k => absurd k h⟩
theorem get!_eq (s : ByteArray) (k : Nat) (h : k < s.size) : s.get! k = s[k] := by
  show s.data[k]! = s.data[k]
  exact getElem!_pos s.data k h

set_option maxRecDepth 100000 in
set_option maxHeartbeats 4000000 in
theorem tchar19_any (x : Nat) (hx : x < 256) (w : World) : Calls Tryf.prog 19 #[.int .u8 (x : Int)] w fun e w' => Says (tok x) e ∧ w' = w := by
  by_cases ha : 97 ≤ x ∧ x ≤ 122
  · have H := hide (show tok x from Or.inl ha)
    obtain ⟨h1, h2⟩ := ha
    have k1 : (97 : Int) ≤ (x : Int) := by omega
    have k2 : (x : Int) ≤ 122 := by omega
    go_enter Tryf.func19, Tryf.ntmps19
    go_wp2
    go_ret
    exact ⟨Says.yes (unhide H), rfl⟩
  · by_cases hb : 65 ≤ x ∧ x ≤ 90
    · have H := hide (show tok x from Or.inr (Or.inl hb))
      obtain ⟨h1, h2⟩ := hb
      have k0 : ¬ (97 : Int) ≤ (x : Int) := by omega
      have k1 : (65 : Int) ≤ (x : Int) := by omega
      have k2 : (x : Int) ≤ 90 := by omega
      go_enter Tryf.func19, Tryf.ntmps19
      go_wp2
      go_ret
      exact ⟨Says.yes (unhide H), rfl⟩
    · by_cases hc : 48 ≤ x ∧ x ≤ 57
      · have H := hide (show tok x from Or.inr (Or.inr (Or.inl hc)))
        obtain ⟨h1, h2⟩ := hc
        have k0 : ¬ (97 : Int) ≤ (x : Int) := by omega
        have k1 : ¬ (65 : Int) ≤ (x : Int) := by omega
        have k2 : (48 : Int) ≤ (x : Int) := by omega
        have k3 : (x : Int) ≤ 57 := by omega
        go_enter Tryf.func19, Tryf.ntmps19
        go_wp2
        go_ret
        exact ⟨Says.yes (unhide H), rfl⟩
      · by_cases hm : x ∈ marks
        · have H := hide (show tok x from Or.inr (Or.inr (Or.inr hm)))
          clear ha hb hc
          simp only [marks, List.mem_cons, List.not_mem_nil, or_false] at hm
          rcases hm with rfl | rfl | rfl | rfl | rfl | rfl | rfl | rfl | rfl | rfl | rfl | rfl | rfl | rfl | rfl
          all_goals
            go_enter Tryf.func19, Tryf.ntmps19
            go_wp2
            go_ret
            exact ⟨Says.yes (unhide H), rfl⟩
        · have H : Hid (¬ tok x) := by
            rintro (h | h | h | h)
            · exact ha h
            · exact hb h
            · exact hc h
            · exact hm h
          simp only [marks, List.mem_cons, List.not_mem_nil, or_false, not_or] at hm
          obtain ⟨m33, m35, m36, m37, m38, m39, m42, m43, m45, m46, m94, m95, m96, m124, m126⟩ := hm
          have e33 : ((x : Int) == 33) = false := beq_eq_false_iff_ne.2 (by omega)
          have e35 : ((x : Int) == 35) = false := beq_eq_false_iff_ne.2 (by omega)
          have e36 : ((x : Int) == 36) = false := beq_eq_false_iff_ne.2 (by omega)
          have e37 : ((x : Int) == 37) = false := beq_eq_false_iff_ne.2 (by omega)
          have e38 : ((x : Int) == 38) = false := beq_eq_false_iff_ne.2 (by omega)
          have e39 : ((x : Int) == 39) = false := beq_eq_false_iff_ne.2 (by omega)
          have e42 : ((x : Int) == 42) = false := beq_eq_false_iff_ne.2 (by omega)
          have e43 : ((x : Int) == 43) = false := beq_eq_false_iff_ne.2 (by omega)
          have e45 : ((x : Int) == 45) = false := beq_eq_false_iff_ne.2 (by omega)
          have e46 : ((x : Int) == 46) = false := beq_eq_false_iff_ne.2 (by omega)
          have e94 : ((x : Int) == 94) = false := beq_eq_false_iff_ne.2 (by omega)
          have e95 : ((x : Int) == 95) = false := beq_eq_false_iff_ne.2 (by omega)
          have e96 : ((x : Int) == 96) = false := beq_eq_false_iff_ne.2 (by omega)
          have e124 : ((x : Int) == 124) = false := beq_eq_false_iff_ne.2 (by omega)
          have e126 : ((x : Int) == 126) = false := beq_eq_false_iff_ne.2 (by omega)
          clear m33 m35 m36 m37 m38 m39 m42 m43 m45 m46 m94 m95 m96 m124 m126
          have g1 : x < 48 ∨ (57 < x ∧ x < 65) ∨ (90 < x ∧ x < 97) ∨ 122 < x := by omega
          clear ha hb hc
          rcases g1 with g | ⟨g, g'⟩ | ⟨g, g'⟩ | g
          · have k1 : ¬ (97 : Int) ≤ (x : Int) := by omega
            have k2 : ¬ (65 : Int) ≤ (x : Int) := by omega
            have k3 : ¬ (48 : Int) ≤ (x : Int) := by omega
            go_enter Tryf.func19, Tryf.ntmps19
            go_wp2
            go_ret
            exact ⟨Says.no (unhide H), rfl⟩
          · have k1 : ¬ (97 : Int) ≤ (x : Int) := by omega
            have k2 : ¬ (65 : Int) ≤ (x : Int) := by omega
            have k3 : (48 : Int) ≤ (x : Int) := by omega
            have k4 : ¬ (x : Int) ≤ 57 := by omega
            go_enter Tryf.func19, Tryf.ntmps19
            go_wp2
            go_ret
            exact ⟨Says.no (unhide H), rfl⟩
          · have k1 : ¬ (97 : Int) ≤ (x : Int) := by omega
            have k2 : (65 : Int) ≤ (x : Int) := by omega
            have k5 : ¬ (x : Int) ≤ 90 := by omega
            have k3 : (48 : Int) ≤ (x : Int) := by omega
            have k4 : ¬ (x : Int) ≤ 57 := by omega
            go_enter Tryf.func19, Tryf.ntmps19
            go_wp2
            go_ret
            exact ⟨Says.no (unhide H), rfl⟩
          · have k1 : (97 : Int) ≤ (x : Int) := by omega
            have k6 : ¬ (x : Int) ≤ 122 := by omega
            have k2 : (65 : Int) ≤ (x : Int) := by omega
            have k5 : ¬ (x : Int) ≤ 90 := by omega
            have k3 : (48 : Int) ≤ (x : Int) := by omega
            have k4 : ¬ (x : Int) ≤ 57 := by omega
            go_enter Tryf.func19, Tryf.ntmps19
            go_wp2
            go_ret
            exact ⟨Says.no (unhide H), rfl⟩

set_option maxRecDepth 100000 in
set_option maxHeartbeats 4000000 in
theorem tchar13_any (x : Nat) (hx : x < 256) (w : World) : Calls Tryf.prog 13 #[.int .u8 (x : Int)] w fun e w' => Says (tok x) e ∧ w' = w := by
  by_cases ha : 97 ≤ x ∧ x ≤ 122
  · have H := hide (show tok x from Or.inl ha)
    obtain ⟨h1, h2⟩ := ha
    have k1 : (97 : Int) ≤ (x : Int) := by omega
    have k2 : (x : Int) ≤ 122 := by omega
    go_enter Tryf.func13, Tryf.ntmps13
    go_wp2
    go_ret
    exact ⟨Says.yes (unhide H), rfl⟩
  · by_cases hb : 65 ≤ x ∧ x ≤ 90
    · have H := hide (show tok x from Or.inr (Or.inl hb))
      obtain ⟨h1, h2⟩ := hb
      have k0 : ¬ (97 : Int) ≤ (x : Int) := by omega
      have k1 : (65 : Int) ≤ (x : Int) := by omega
      have k2 : (x : Int) ≤ 90 := by omega
      go_enter Tryf.func13, Tryf.ntmps13
      go_wp2
      go_ret
      exact ⟨Says.yes (unhide H), rfl⟩
    · by_cases hc : 48 ≤ x ∧ x ≤ 57
      · have H := hide (show tok x from Or.inr (Or.inr (Or.inl hc)))
        obtain ⟨h1, h2⟩ := hc
        have k0 : ¬ (97 : Int) ≤ (x : Int) := by omega
        have k1 : ¬ (65 : Int) ≤ (x : Int) := by omega
        have k2 : (48 : Int) ≤ (x : Int) := by omega
        have k3 : (x : Int) ≤ 57 := by omega
        go_enter Tryf.func13, Tryf.ntmps13
        go_wp2
        go_ret
        exact ⟨Says.yes (unhide H), rfl⟩
      · by_cases hm : x ∈ marks
        · have H := hide (show tok x from Or.inr (Or.inr (Or.inr hm)))
          clear ha hb hc
          simp only [marks, List.mem_cons, List.not_mem_nil, or_false] at hm
          rcases hm with rfl | rfl | rfl | rfl | rfl | rfl | rfl | rfl | rfl | rfl | rfl | rfl | rfl | rfl | rfl
          all_goals
            go_enter Tryf.func13, Tryf.ntmps13
            go_wp2
            go_ret
            exact ⟨Says.yes (unhide H), rfl⟩
        · have H : Hid (¬ tok x) := by
            rintro (h | h | h | h)
            · exact ha h
            · exact hb h
            · exact hc h
            · exact hm h
          simp only [marks, List.mem_cons, List.not_mem_nil, or_false, not_or] at hm
          obtain ⟨m33, m35, m36, m37, m38, m39, m42, m43, m45, m46, m94, m95, m96, m124, m126⟩ := hm
          have e33 : ((x : Int) == 33) = false := beq_eq_false_iff_ne.2 (by omega)
          have e35 : ((x : Int) == 35) = false := beq_eq_false_iff_ne.2 (by omega)
          have e36 : ((x : Int) == 36) = false := beq_eq_false_iff_ne.2 (by omega)
          have e37 : ((x : Int) == 37) = false := beq_eq_false_iff_ne.2 (by omega)
          have e38 : ((x : Int) == 38) = false := beq_eq_false_iff_ne.2 (by omega)
          have e39 : ((x : Int) == 39) = false := beq_eq_false_iff_ne.2 (by omega)
          have e42 : ((x : Int) == 42) = false := beq_eq_false_iff_ne.2 (by omega)
          have e43 : ((x : Int) == 43) = false := beq_eq_false_iff_ne.2 (by omega)
          have e45 : ((x : Int) == 45) = false := beq_eq_false_iff_ne.2 (by omega)
          have e46 : ((x : Int) == 46) = false := beq_eq_false_iff_ne.2 (by omega)
          have e94 : ((x : Int) == 94) = false := beq_eq_false_iff_ne.2 (by omega)
          have e95 : ((x : Int) == 95) = false := beq_eq_false_iff_ne.2 (by omega)
          have e96 : ((x : Int) == 96) = false := beq_eq_false_iff_ne.2 (by omega)
          have e124 : ((x : Int) == 124) = false := beq_eq_false_iff_ne.2 (by omega)
          have e126 : ((x : Int) == 126) = false := beq_eq_false_iff_ne.2 (by omega)
          clear m33 m35 m36 m37 m38 m39 m42 m43 m45 m46 m94 m95 m96 m124 m126
          have g1 : x < 48 ∨ (57 < x ∧ x < 65) ∨ (90 < x ∧ x < 97) ∨ 122 < x := by omega
          clear ha hb hc
          rcases g1 with g | ⟨g, g'⟩ | ⟨g, g'⟩ | g
          · have k1 : ¬ (97 : Int) ≤ (x : Int) := by omega
            have k2 : ¬ (65 : Int) ≤ (x : Int) := by omega
            have k3 : ¬ (48 : Int) ≤ (x : Int) := by omega
            go_enter Tryf.func13, Tryf.ntmps13
            go_wp2
            go_ret
            exact ⟨Says.no (unhide H), rfl⟩
          · have k1 : ¬ (97 : Int) ≤ (x : Int) := by omega
            have k2 : ¬ (65 : Int) ≤ (x : Int) := by omega
            have k3 : (48 : Int) ≤ (x : Int) := by omega
            have k4 : ¬ (x : Int) ≤ 57 := by omega
            go_enter Tryf.func13, Tryf.ntmps13
            go_wp2
            go_ret
            exact ⟨Says.no (unhide H), rfl⟩
          · have k1 : ¬ (97 : Int) ≤ (x : Int) := by omega
            have k2 : (65 : Int) ≤ (x : Int) := by omega
            have k5 : ¬ (x : Int) ≤ 90 := by omega
            have k3 : (48 : Int) ≤ (x : Int) := by omega
            have k4 : ¬ (x : Int) ≤ 57 := by omega
            go_enter Tryf.func13, Tryf.ntmps13
            go_wp2
            go_ret
            exact ⟨Says.no (unhide H), rfl⟩
          · have k1 : (97 : Int) ≤ (x : Int) := by omega
            have k6 : ¬ (x : Int) ≤ 122 := by omega
            have k2 : (65 : Int) ≤ (x : Int) := by omega
            have k5 : ¬ (x : Int) ≤ 90 := by omega
            have k3 : (48 : Int) ≤ (x : Int) := by omega
            have k4 : ¬ (x : Int) ≤ 57 := by omega
            go_enter Tryf.func13, Tryf.ntmps13
            go_wp2
            go_ret
            exact ⟨Says.no (unhide H), rfl⟩

set_option maxHeartbeats 1000000 in
theorem isWS_any (x : Nat) (hx : x < 256) (w : World) : Calls Tryf.prog 10 #[.int .u8 (x : Int)] w fun e w' => Says (wsp x) e ∧ w' = w := by
  by_cases h1 : x = 32
  · have H := hide (show wsp x from Or.inl h1)
    subst h1
    go_enter Tryf.func10, Tryf.ntmps10
    go_wp2
    go_ret
    exact ⟨Says.yes (unhide H), rfl⟩
  · by_cases h2 : x = 9
    · have H := hide (show wsp x from Or.inr h2)
      subst h2
      go_enter Tryf.func10, Tryf.ntmps10
      go_wp2
      go_ret
      exact ⟨Says.yes (unhide H), rfl⟩
    · have H : Hid (¬ wsp x) := by rintro (h | h) <;> contradiction
      have e1 : ((x : Int) == 32) = false := beq_eq_false_iff_ne.2 (by omega)
      have e2 : ((x : Int) == 9) = false := beq_eq_false_iff_ne.2 (by omega)
      clear h1 h2
      go_enter Tryf.func10, Tryf.ntmps10
      go_wp2
      go_ret
      exact ⟨Says.no (unhide H), rfl⟩

set_option maxHeartbeats 1000000 in
theorem isCtl_any (x : Nat) (hx : x < 256) (w : World) : Calls Tryf.prog 14 #[.int .u8 (x : Int)] w fun e w' => Says (ctl x) e ∧ w' = w := by
  by_cases h1 : x = 127
  · have H := hide (show ctl x from Or.inr h1)
    subst h1
    go_enter Tryf.func14, Tryf.ntmps14
    go_wp2
    go_ret
    exact ⟨Says.yes (unhide H), rfl⟩
  · have e1 : ((x : Int) == 127) = false := beq_eq_false_iff_ne.2 (by omega)
    by_cases h2 : x = 9
    · have H : Hid (¬ ctl x) := by rintro (⟨_, h⟩ | h) <;> contradiction
      subst h2
      go_enter Tryf.func14, Tryf.ntmps14
      go_wp2
      go_ret
      exact ⟨Says.no (unhide H), rfl⟩
    · have e2 : ((x : Int) != 9) = true := by simp; omega
      by_cases h3 : x < 32
      · have H := hide (show ctl x from Or.inl ⟨h3, h2⟩)
        have h3' : (x : Int) < 32 := by omega
        clear h1 h2
        go_enter Tryf.func14, Tryf.ntmps14
        go_wp2
        go_ret
        exact ⟨Says.yes (unhide H), rfl⟩
      · have H : Hid (¬ ctl x) := by rintro (⟨h, _⟩ | h) <;> contradiction
        have h3' : ¬ (x : Int) < 32 := by omega
        clear h1 h2
        go_enter Tryf.func14, Tryf.ntmps14
        go_wp2
        go_ret
        exact ⟨Says.no (unhide H), rfl⟩

/-- All bytes of a text are such. -/
def AllB (p : Nat → Prop) (s : ByteArray) : Prop := ∀ i, i < s.size → p (s.get! i).toNat
theorem allB_iff (p : Nat → Prop) (s : ByteArray) : AllB p s ↔ ∀ b ∈ s.data.toList, p b.toNat := by
  constructor
  · intro h b hb
    obtain ⟨i, hi, rfl⟩ := List.mem_iff_getElem.1 hb
    have hi' : i < s.size := by simpa using hi
    have := h i hi'
    rw [get!_eq s i hi'] at this
    simp only [Array.getElem_toList]
    exact this
  · intro h i hi
    rw [get!_eq s i hi]
    exact h _ (by rw [Array.mem_toList_iff]; exact Array.getElem_mem (xs := s.data) hi)
/-- A token. -/
def Tok (s : ByteArray) : Prop := s.size ≠ 0 ∧ AllB tok s
theorem tok_iff (s : ByteArray) : Tok s ↔ s.data.toList ≠ [] ∧ ∀ b ∈ s.data.toList, tok b.toNat := by
  unfold Tok
  rw [allB_iff]
  refine and_congr ?_ Iff.rfl
  rw [Ne, Ne, ← List.length_eq_zero_iff]
  exact Iff.rfl

set_option maxRecDepth 100000 in
set_option maxHeartbeats 1000000 in
theorem token_any (s : ByteArray) (w : World) (hs : s.size ≤ 9223372036854775807) : Calls Tryf.prog 15 #[.string s] w fun e w' => Says (Tok s) e ∧ w' = w := by
  by_cases h0 : s.size = 0
  · have e0 : s = ⟨#[]⟩ := by
      cases s with | mk d =>
      have : d.size = 0 := h0
      rw [Array.eq_empty_of_size_eq_zero this]
    subst e0
    go_enter Tryf.func15, Tryf.ntmps15
    go_wp2
    go_ret
    exact ⟨Says.no (fun h => h.1 rfl), rfl⟩
  · have e0 : s.toList.isEmpty = false := by
      rw [ByteArray.toList_eq, Bool.eq_false_iff]
      intro h
      have := congrArg List.length (List.isEmpty_iff.1 h)
      exact h0 (by simpa using this)
    go_enter Tryf.func15, Tryf.ntmps15
    go_wp2_with fail
    go_loop [3] (fun i => ∃ k : Nat, k ≤ s.size ∧ i = .int .i64 k ∧ ∀ j, j < k → tok (s.get! j).toNat) (fun i => s.size - (intOf i).toNat)
    case atStart => exact ⟨0, Nat.zero_le _, rfl, fun j hj => by omega⟩
    case round =>
      obtain ⟨k, hk, rfl, hall⟩ := hrel
      have HA := hide hall
      clear hall
      by_cases hlt : k < s.size
      · have hlt' : (k : Int) < (s.size : Int) := by omega
        go_wp2_with fail
        refine (tchar19_any (s[k]).toNat (UInt8.toNat_lt _) w).mono ?_
        rintro e w' ⟨⟨r, rfl, hr⟩, rfl⟩
        rw [← get!_eq s k hlt] at hr
        have HR := hide hr
        clear hr
        cases r with
        | false =>
          go_wp2
          go_ret
          exact ⟨Says.no (fun h => by have := (unhide HR).2 (h.2 k hlt); cases this), rfl⟩
        | true =>
          go_wp2
          go_round
          case rel =>
            refine ⟨k + 1, by omega, by go_num, fun j hj => ?_⟩
            by_cases e : j = k
            · subst e; exact (unhide HR).1 (by trivial)
            · exact unhide HA j (by omega)
          case measure => simp [intOf]; omega
      · go_wp2
        go_ret
        exact ⟨Says.yes ⟨h0, fun j hj => unhide HA j (by omega)⟩, rfl⟩
end Go.Proofs.Qxb6604744aFmt
