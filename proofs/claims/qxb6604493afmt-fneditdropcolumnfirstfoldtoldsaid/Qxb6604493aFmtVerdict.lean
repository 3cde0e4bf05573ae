/-
  The law's own foldVerdict: 1 only where the texts differ at most in the case of ASCII letters; 0 only where both are ASCII and differ beyond it.
-/
import Derived.Test.Qxb6604493aFmtSizes
import Derived.Test.Qxb6604493aFmtSame
import Derived.BigQuiet
import Derived.Deep.QuietTactic
import Derived.Deep.RegionWith
namespace Go.Proofs.Qxb6604493aFmt
open Go.RowKit

set_option maxHeartbeats 400000 in
theorem asciiLower_any (x : Nat) (hx : x < 256) (w : World) :
    Calls Tryf.prog 15 #[.int .u8 (x : Int)] w fun e w' => e = .returned (.int .u8 ((lowr x : Nat) : Int)) ∧ w' = w := by
  by_cases h1 : 65 ≤ x
  · by_cases h2 : x ≤ 90
    · have h1' : (65 : Int) ≤ (x : Int) := by omega
      have h2' : (x : Int) ≤ 90 := by omega
      have e : lowr x = x + 32 := by unfold lowr; rw [if_pos ⟨h1, h2⟩]
      go_enter Tryf.func15, Tryf.ntmps15
      go_wp2
      go_ret
      exact ⟨by rw [e]; rfl, rfl⟩
    · have h1' : (65 : Int) ≤ (x : Int) := by omega
      have h2' : ¬ (x : Int) ≤ 90 := by omega
      have e : lowr x = x := by unfold lowr; rw [if_neg (fun h => h2 h.2)]
      rw [e]
      clear e
      go_enter Tryf.func15, Tryf.ntmps15
      go_wp2
      go_ret
      exact ⟨rfl, rfl⟩
  · have h1' : ¬ (65 : Int) ≤ (x : Int) := by omega
    have e : lowr x = x := by unfold lowr; rw [if_neg (fun h => h1 h.1)]
    rw [e]
    clear e
    go_enter Tryf.func15, Tryf.ntmps15
    go_wp2
    go_ret
    exact ⟨rfl, rfl⟩

def AscPost (s : ByteArray) (e : Ending) : Prop := ∃ b : Bool, e = .returned (.bool b) ∧ (b = true → Asc s)

set_option maxHeartbeats 400000 in
theorem isASCII_any (s : ByteArray) (w : World) (hs : s.size ≤ 9223372036854775807) :
    Calls Tryf.prog 16 #[.string s] w fun e w' => AscPost s e ∧ w' = w := by
  go_enter Tryf.func16, Tryf.ntmps16
  go_wp2
  go_loop [3] (fun i => ∃ k : Nat, k ≤ s.size ∧ i = .int .i64 k ∧ ∀ j, j < k → (s.get! j).toNat < 128) (fun i => s.size - (intOf i).toNat)
  case atStart => exact ⟨0, Nat.zero_le _, rfl, fun j hj => by omega⟩
  case round =>
    obtain ⟨k, hk, rfl, hall⟩ := hrel
    have HA := hide hall
    clear hall
    by_cases hlt : k < s.size
    · have hlt' : (k : Int) < (s.size : Int) := by omega
      by_cases hb : (128 : Int) ≤ ((s[k]).toNat : Int)
      · go_wp2
        go_ret
        exact ⟨⟨false, rfl, fun h => by cases h⟩, rfl⟩
      · have Hb : Hid ((s.get! k).toNat < 128) := by show _ < _; rw [get!_eq s k hlt]; omega
        go_wp2
        go_round
        case rel =>
          refine ⟨k + 1, by omega, by go_num, fun j hj => ?_⟩
          by_cases e : j = k
          · subst e; exact unhide Hb
          · exact unhide HA j (by omega)
        case measure => simp [intOf]; omega
    · go_wp2
      go_ret
      exact ⟨⟨true, rfl, fun _ j hj => unhide HA j (by omega)⟩, rfl⟩

/-- What foldVerdict answers. -/
def VerdPost (s t : ByteArray) (w : World) (e : Ending) (w' : World) : Prop :=
  (∃ v : Int, e = .returned (.int .i64 v) ∧ (v = 1 → Same s t) ∧ (v = 0 → Diff s t)) ∧ ∃ q, w' = w.drewN q

set_option maxRecDepth 100000 in
set_option maxHeartbeats 1000000 in
theorem foldVerdict_any (s t : ByteArray) (w : World) (hs : s.size ≤ 1048576) (ht : t.size ≤ 1048576) :
    Calls Tryf.prog 12 #[.string s, .string t] w fun e w' => VerdPost s t w e w' := by
  by_cases hst : s.size = t.size
  · have hb : ((s.size : Int) == (t.size : Int)) = true := beq_iff_eq.2 (by omega)
    have Hst := hide hst
    have hst2 : t.size ≤ s.size := by omega
    have hst3 : s.size ≤ t.size := by omega
    clear hst
    go_enter Tryf.func12, Tryf.ntmps12
    go_wp2
    go_loopw [5, 6] (fun b i wr => ∃ (k q : Nat), k ≤ s.size ∧ i = .int .i64 k ∧ b = .bool true ∧ wr = w.drewN q ∧ ∀ j, j < k → lowr (s.get! j).toNat = lowr (t.get! j).toNat) (fun _ i _ => s.size - (intOf i).toNat)
    case atStart => exact ⟨0, 0, Nat.zero_le _, rfl, rfl, rfl, fun j hj => by omega⟩
    case round =>
      obtain ⟨k, q, hk, rfl, rfl, hwr, hall⟩ := hrel
      have HA := hide hall
      have Hwr := hide hwr
      clear hall hwr
      by_cases hlt : k < s.size
      · have hlt' : (k : Int) < (s.size : Int) := by omega
        have hlt2 : (k : Int) < (t.size : Int) := by omega
        obtain ⟨x, hx⟩ : ∃ x : UInt8, s[k]'(by omega) = x := ⟨_, rfl⟩
        obtain ⟨y, hy⟩ : ∃ y : UInt8, t[k]'(by omega) = y := ⟨_, rfl⟩
        have Hx : Hid (s.get! k = x) := by show _ = _; rw [get!_eq s k (by omega)]; exact hx
        have Hy : Hid (t.get! k = y) := by show _ = _; rw [get!_eq t k (by omega)]; exact hy
        have x256 := x.toNat_lt
        have y256 := y.toNat_lt
        by_cases hlo : lowr x.toNat = lowr y.toNat
        · have hlo' : (((lowr x.toNat : Nat) : Int) != ((lowr y.toNat : Nat) : Int)) = false := by simp [hlo]
          have Hlo := hide hlo
          clear hlo
          go_wp2
          go_quiet ((go_at_call 15; exact Calls.quiet_of_same (asciiLower_any _ (UInt8.toNat_lt _) _)))
          go_wp2
          go_roundw
          case rel =>
            refine ⟨k + 1, _, by omega, by go_num, rfl, by rw [unhide Hwr]; exact World.drewN_drewN _ _ _, fun j hj => ?_⟩
            by_cases e : j = k
            · subst e; rw [unhide Hx, unhide Hy]; exact unhide Hlo
            · exact unhide HA j (by omega)
          case measure => simp [intOf]; omega
        · have hlo' : (((lowr x.toNat : Nat) : Int) != ((lowr y.toNat : Nat) : Int)) = true := by simp; omega
          have Hno : Hid (¬ Same s t) := fun h => by
            have := h.2 k hlt
            rw [unhide Hx, unhide Hy] at this
            exact hlo this
          clear hlo
          go_wp2
          go_quiet ((go_at_call 15; exact Calls.quiet_of_same (asciiLower_any _ (UInt8.toNat_lt _) _)))
          go_wp2_with fail
          refine (isASCII_any s _ (by omega)).mono ?_
          rintro e w1 ⟨⟨b1, rfl, hb1⟩, rfl⟩
          have H1 := hide hb1
          clear hb1
          cases b1 with
          | false =>
            go_wp2
            go_ret
            exact ⟨⟨2, rfl, (fun h => by cases h), (fun h => by cases h)⟩, _, by rw [unhide Hwr]; exact World.drewN_drewN _ _ _⟩
          | true =>
            go_wp2_with fail
            refine (isASCII_any t _ (by omega)).mono ?_
            rintro e w2 ⟨⟨b2, rfl, hb2⟩, rfl⟩
            have H2 := hide hb2
            clear hb2
            cases b2 with
            | false =>
              go_wp2
              go_ret
              exact ⟨⟨2, rfl, (fun h => by cases h), (fun h => by cases h)⟩, _, by rw [unhide Hwr]; exact World.drewN_drewN _ _ _⟩
            | true =>
              go_wp2
              go_ret
              exact ⟨⟨0, rfl, (fun h => by cases h), fun _ => ⟨(unhide H1) (by trivial), (unhide H2) (by trivial), unhide Hno⟩⟩, _, by rw [unhide Hwr]; exact World.drewN_drewN _ _ _⟩
      · have hlt' : ¬ (k : Int) < (s.size : Int) := by omega
        go_wp2
        go_ret
        exact ⟨⟨1, rfl, fun _ => ⟨unhide Hst, fun j hj => unhide HA j (by omega)⟩, fun h => by cases h⟩, q, unhide Hwr⟩
  · have hb : ((s.size : Int) == (t.size : Int)) = false := beq_eq_false_iff_ne.2 (by omega)
    have Hno : Hid (¬ Same s t) := fun h => hst h.1
    clear hst
    go_enter Tryf.func12, Tryf.ntmps12
    go_wp2_with fail
    refine (isASCII_any s _ (by omega)).mono ?_
    rintro e w1 ⟨⟨b1, rfl, hb1⟩, rfl⟩
    have H1 := hide hb1
    clear hb1
    cases b1 with
    | false =>
      go_wp2
      go_ret
      exact ⟨⟨2, rfl, (fun h => by cases h), (fun h => by cases h)⟩, 0, rfl⟩
    | true =>
      go_wp2_with fail
      refine (isASCII_any t _ (by omega)).mono ?_
      rintro e w2 ⟨⟨b2, rfl, hb2⟩, rfl⟩
      have H2 := hide hb2
      clear hb2
      cases b2 with
      | false =>
        go_wp2
        go_ret
        exact ⟨⟨2, rfl, (fun h => by cases h), (fun h => by cases h)⟩, 0, rfl⟩
      | true =>
        go_wp2
        go_ret
        exact ⟨⟨0, rfl, (fun h => by cases h), fun _ => ⟨(unhide H1) (by trivial), (unhide H2) (by trivial), unhide Hno⟩⟩, 0, rfl⟩
end Go.Proofs.Qxb6604493aFmt
