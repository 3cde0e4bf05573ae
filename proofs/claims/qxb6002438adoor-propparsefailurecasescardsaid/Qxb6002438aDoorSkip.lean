/-
  The model's own helpers: zzIsDelim, zzSkipComment, zzSkipWord, zzSkipQuote.
-/
import Derived.Test.Qxb6002438aDoorRows
import Derived.Test.Qxb6002438aDoorPlain
import Derived.WalkKit
import Derived.WalkSpells
import Derived.WalkLawsBesides
namespace Go.Proofs.Qxb6002438aDoor
open Go.RowKit

theorem hide {p : Prop} (h : p) : Hid p := h
theorem unhide {p : Prop} (h : Hid p) : p := h
/-- A yes or no that tells whether p holds. -/
def Says (p : Prop) (e : Ending) : Prop := ∃ r : Bool, e = .returned (.bool r) ∧ (r = true ↔ p)
theorem Says.yes {p : Prop} (h : p) : Says p (.returned (.bool true)) := ⟨true, rfl, fun _ => h, fun _ => rfl⟩
theorem Says.no {p : Prop} (h : ¬ p) : Says p (.returned (.bool false)) := ⟨false, rfl, fun h => by (cases h), fun k => absurd k h⟩
theorem get!_eq (s : ByteArray) (k : Nat) (h : k < s.size) : s.get! k = s[k] := by
  show s.data[k]! = s.data[k]
  exact getElem!_pos s.data k h
theorem byt_eq (s : ByteArray) (k : Nat) (h : k < s.size) : byt s k = (s[k]).toNat := by unfold byt; rw [get!_eq s k h]

set_option maxRecDepth 100000 in
set_option maxHeartbeats 2000000 in
theorem isDelim_any (x : Nat) (hx : x < 256) (w : World) : Calls Tryd.prog 26 #[.int .u8 (x : Int)] w fun e w' => Says (isDelim x) e ∧ w' = w := by
  by_cases hd : isDelim x
  · have H := hide hd
    unfold isDelim at hd
    rcases hd with rfl | rfl | rfl | rfl | rfl | rfl | rfl
    all_goals
      go_enter Tryd.func26, Tryd.ntmps26
      go_wp2
      go_ret
      exact ⟨Says.yes (unhide H), rfl⟩
  · have H := hide hd
    unfold isDelim at hd
    have e1 : ((x : Int) == 32) = false := beq_eq_false_iff_ne.2 (by omega)
    have e2 : ((x : Int) == 9) = false := beq_eq_false_iff_ne.2 (by omega)
    have e3 : ((x : Int) == 10) = false := beq_eq_false_iff_ne.2 (by omega)
    have e4 : ((x : Int) == 123) = false := beq_eq_false_iff_ne.2 (by omega)
    have e5 : ((x : Int) == 125) = false := beq_eq_false_iff_ne.2 (by omega)
    have e6 : ((x : Int) == 124) = false := beq_eq_false_iff_ne.2 (by omega)
    have e7 : ((x : Int) == 39) = false := beq_eq_false_iff_ne.2 (by omega)
    clear hd
    go_enter Tryd.func26, Tryd.ntmps26
    go_wp2
    go_ret
    exact ⟨Says.no (unhide H), rfl⟩

set_option maxRecDepth 100000 in
set_option maxHeartbeats 1000000 in
theorem skipComment_any (s : ByteArray) (i : Nat) (w : World) (hs : s.size ≤ 1048576) (hi : i ≤ s.size) :
    Calls Tryd.prog 19 #[.string s, .int .i64 (i : Int)] w fun e w' => e = .returned (.int .i64 (skipC s (s.size - i) i : Nat)) ∧ w' = w := by
  generalize hv : skipC s (s.size - i) i = v
  have Hv := hide hv
  clear hv
  go_enter Tryd.func19, Tryd.ntmps19
  go_wp2_with fail
  go_loop [1] (fun j => ∃ k : Nat, i ≤ k ∧ k ≤ s.size ∧ j = .int .i64 k ∧ ∀ h, i ≤ h → h < k → ¬ byt s h = 10) (fun j => s.size - (intOf j).toNat)
  case atStart => exact ⟨i, Nat.le_refl _, hi, rfl, fun h h1 h2 => by omega⟩
  case round =>
    obtain ⟨k, hk1, hk2, rfl, hall⟩ := hrel
    have HA := hide hall
    clear hall
    by_cases hlt : k < s.size
    · have hlt' : (k : Int) < (s.size : Int) := by omega
      have hb := byt_eq s k hlt
      by_cases h10 : (s[k]).toNat = 10
      · have e1 : (((s[k]).toNat : Int) != 10) = false := by simp; omega
        have HE : Hid (v = k) := by
          show v = k
          rw [← unhide Hv]
          exact skipC_eq s hk1 hk2 (unhide HA) (fun _ => by rw [hb]; exact h10)
        clear h10 hb
        go_wp2
        go_ret
        exact ⟨by rw [unhide HE]; rfl, rfl⟩
      · have e1 : (((s[k]).toNat : Int) != 10) = true := by simp; omega
        have HN : Hid (¬ byt s k = 10) := by show ¬ _; rw [hb]; exact h10
        clear h10 hb
        go_wp2
        go_round
        case rel =>
          refine ⟨k + 1, by omega, by omega, by go_num, fun h h1 h2 => ?_⟩
          by_cases e : h = k
          · subst e; exact unhide HN
          · exact unhide HA h h1 (by omega)
        case measure => simp [intOf]; omega
    · have hlt' : ¬ (k : Int) < (s.size : Int) := by omega
      have HE : Hid (v = k) := by
        show v = k
        rw [← unhide Hv]
        exact skipC_eq s hk1 hk2 (unhide HA) (fun h => absurd h hlt)
      go_wp2
      go_ret
      exact ⟨by rw [unhide HE]; rfl, rfl⟩

set_option maxRecDepth 100000 in
set_option maxHeartbeats 1000000 in
theorem skipWord_any (s : ByteArray) (i : Nat) (w : World) (hs : s.size ≤ 1048576) (hi : i ≤ s.size) :
    Calls Tryd.prog 21 #[.string s, .int .i64 (i : Int)] w fun e w' => e = .returned (.int .i64 (skipW s (s.size - i) i : Nat)) ∧ w' = w := by
  generalize hv : skipW s (s.size - i) i = v
  have Hv := hide hv
  clear hv
  go_enter Tryd.func21, Tryd.ntmps21
  go_wp2_with fail
  go_loop [1] (fun j => ∃ k : Nat, i ≤ k ∧ k ≤ s.size ∧ j = .int .i64 k ∧ ∀ h, i ≤ h → h < k → ¬ isDelim (byt s h)) (fun j => s.size - (intOf j).toNat)
  case atStart => exact ⟨i, Nat.le_refl _, hi, rfl, fun h h1 h2 => by omega⟩
  case round =>
    obtain ⟨k, hk1, hk2, rfl, hall⟩ := hrel
    have HA := hide hall
    clear hall
    by_cases hlt : k < s.size
    · have hlt' : (k : Int) < (s.size : Int) := by omega
      have hb := byt_eq s k hlt
      go_wp2_with fail
      refine (isDelim_any (s[k]).toNat (UInt8.toNat_lt _) w).mono ?_
      rintro e w' ⟨⟨r, rfl, hr⟩, rfl⟩
      rw [← hb] at hr
      have HR := hide hr
      clear hr hb
      cases r with
      | true =>
        have HE : Hid (v = k) := by
          show v = k
          rw [← unhide Hv]
          exact skipW_eq s hk1 hk2 (unhide HA) (fun _ => (unhide HR).1 rfl)
        clear HR
        go_wp2
        go_ret
        exact ⟨by rw [unhide HE]; rfl, rfl⟩
      | false =>
        have HN : Hid (¬ isDelim (byt s k)) := fun h => by have := (unhide HR).2 h; cases this
        clear HR
        go_wp2
        go_round
        case rel =>
          refine ⟨k + 1, by omega, by omega, by go_num, fun h h1 h2 => ?_⟩
          by_cases e : h = k
          · subst e; exact unhide HN
          · exact unhide HA h h1 (by omega)
        case measure => simp [intOf]; omega
    · have hlt' : ¬ (k : Int) < (s.size : Int) := by omega
      have HE : Hid (v = k) := by
        show v = k
        rw [← unhide Hv]
        exact skipW_eq s hk1 hk2 (unhide HA) (fun h => absurd h hlt)
      go_wp2
      go_ret
      exact ⟨by rw [unhide HE]; rfl, rfl⟩

/-- quoteF with fuel enough. -/
def quo (s : ByteArray) (j nl : Nat) : Option (Nat × Nat) := quoteF s (s.size + 1 - j) j nl
theorem quo_end (s : ByteArray) (j nl : Nat) (h : ¬ j < s.size) : quo s j nl = none := by
  unfold quo
  rw [← quoteF_any s j nl 1 (by omega)]
  simp [quoteF, h]
theorem quo_step (s : ByteArray) (j nl : Nat) (h : j < s.size) : quo s j nl = if byt s j = 39 then (if j + 1 < s.size ∧ byt s (j + 1) = 39 then quo s (j + 2) nl else some (j + 1, nl)) else quo s (j + 1) (if byt s j = 10 then nl + 1 else nl) := by
  unfold quo
  obtain ⟨g, hg⟩ : ∃ g, s.size + 1 - j = g + 1 := ⟨s.size - j, by omega⟩
  rw [hg]
  rw [show quoteF s (g + 1) j nl = if j < s.size then (if byt s j = 39 then (if j + 1 < s.size ∧ byt s (j + 1) = 39 then quoteF s g (j + 2) nl else some (j + 1, nl)) else quoteF s g (j + 1) (if byt s j = 10 then nl + 1 else nl)) else none from rfl, if_pos h]
  rw [quoteF_any s (j + 1) _ g (by omega)]
  by_cases hq : j + 1 < s.size ∧ byt s (j + 1) = 39
  · rw [if_pos hq, if_pos hq, quoteF_any s (j + 2) _ g (by omega)]
  · rw [if_neg hq, if_neg hq]

def QuotePost (o : Option (Nat × Nat)) (w : World) (e : Ending) (w' : World) : Prop :=
  ((∃ j nl : Nat, o = some (j, nl) ∧ e = .returned (.tuple #[.int .i64 (j : Int), .int .i64 (nl : Int), .bool true])) ∨ (o = none ∧ ∃ a b : Int, e = .returned (.tuple #[.int .i64 a, .int .i64 b, .bool false]))) ∧ w' = w

set_option maxRecDepth 100000 in
set_option maxHeartbeats 2000000 in
theorem skipQuote_any (s : ByteArray) (i : Nat) (w : World) (hs : s.size ≤ 1048576) (hi : i < s.size) :
    Calls Tryd.prog 20 #[.string s, .int .i64 (i : Int)] w fun e w' => QuotePost (quo s (i + 1) 0) w e w' := by
  generalize hv : quo s (i + 1) 0 = v
  have Hv := hide hv
  clear hv
  go_enter Tryd.func20, Tryd.ntmps20
  go_wp2_with fail
  go_loop [7, 8] (fun n j => ∃ k nl : Nat, k ≤ s.size ∧ j = .int .i64 k ∧ n = .int .i64 nl ∧ nl ≤ k ∧ v = quo s k nl) (fun _ j => s.size - (intOf j).toNat)
  case atStart => exact ⟨i + 1, 0, by omega, by go_num, rfl, by omega, (unhide Hv).symm⟩
  case round =>
    obtain ⟨k, nl, hk, rfl, rfl, hnl, hq⟩ := hrel
    have HQ := hide hq
    clear hq
    by_cases hlt : k < s.size
    · have hlt' : (k : Int) < (s.size : Int) := by omega
      have hb := byt_eq s k hlt
      have hst := quo_step s k nl hlt
      rw [hb] at hst
      by_cases h39 : (s[k]).toNat = 39
      · rw [if_pos h39] at hst
        have e1 : (((s[k]).toNat : Int) == 39) = true := by rw [h39]; rfl
        by_cases hlt2 : k + 1 < s.size
        · have hlt2' : (k : Int) + 1 < (s.size : Int) := by omega
          have hb2 := byt_eq s (k + 1) hlt2
          rw [hb2] at hst
          obtain ⟨K1, hK1⟩ : ∃ x, k + 1 = x := ⟨_, rfl⟩
          by_cases h39b : (s[k + 1]).toNat = 39
          · rw [if_pos ⟨hlt2, h39b⟩] at hst
            have e2 : (((s[k + 1]).toNat : Int) == 39) = true := by rw [h39b]; rfl
            have HS := hide hst
            clear hst hb hb2 h39 hK1
            go_wp2
            go_round
            case rel => exact ⟨k + 2, nl, by omega, by go_num, rfl, by omega, (unhide HQ).trans (unhide HS)⟩
            case measure => simp [intOf]; omega
          · rw [if_neg (fun h => h39b h.2)] at hst
            have e2 : (((s[k + 1]).toNat : Int) == 39) = false := beq_eq_false_iff_ne.2 (by omega)
            have HS := hide hst
            clear hst hb hb2 h39 hK1
            go_wp2
            go_ret3
            exact ⟨Or.inl ⟨k + 1, nl, (unhide HQ).trans (unhide HS), by rfl⟩, rfl⟩
        · have hlt2' : ¬ (k : Int) + 1 < (s.size : Int) := by omega
          rw [if_neg (fun h => hlt2 h.1)] at hst
          have HS := hide hst
          clear hst hb h39
          go_wp2
          go_ret3
          exact ⟨Or.inl ⟨k + 1, nl, (unhide HQ).trans (unhide HS), by rfl⟩, rfl⟩
      · rw [if_neg h39] at hst
        have e1 : (((s[k]).toNat : Int) == 39) = false := beq_eq_false_iff_ne.2 (by omega)
        by_cases h10 : (s[k]).toNat = 10
        · rw [if_pos h10] at hst
          have e2 : (((s[k]).toNat : Int) == 10) = true := by rw [h10]; rfl
          have HS := hide hst
          clear hst hb h39 h10
          go_wp2
          go_round
          case rel => exact ⟨k + 1, nl + 1, by omega, by go_num, by go_num, by omega, (unhide HQ).trans (unhide HS)⟩
          case measure => simp [intOf]; omega
        · rw [if_neg h10] at hst
          have e2 : (((s[k]).toNat : Int) == 10) = false := beq_eq_false_iff_ne.2 (by omega)
          have HS := hide hst
          clear hst hb h39 h10
          go_wp2
          go_round
          case rel => exact ⟨k + 1, nl, by omega, by go_num, rfl, by omega, (unhide HQ).trans (unhide HS)⟩
          case measure => simp [intOf]; omega
    · have hlt' : ¬ (k : Int) < (s.size : Int) := by omega
      have HS := hide (quo_end s k nl hlt)
      go_wp2
      go_ret3
      exact ⟨Or.inr ⟨(unhide HQ).trans (unhide HS), _, _, rfl⟩, rfl⟩
end Go.Proofs.Qxb6002438aDoor
