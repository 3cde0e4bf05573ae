import Derived.Test.Qxb6604493aFmtRows
import Derived.WalkKit
import Derived.WalkSpells
import Derived.WalkLawsBesides
namespace Go.Proofs.Qxb6604493aFmt
open Go.RowKit

/-- A slice of strings in memory: its elements S 0 .. S (n-1). -/
def StrRow (w : World) (a : Option Addr) (n : Nat) (S : Nat → ByteArray) : Prop :=
  ∀ i, i < n → ∃ b off, a = some ⟨b, off, none⟩ ∧ w.cell? ⟨b, off + i, none⟩ = some (.string (S i))

/-- The answer of the check on sizes: where it is yes, the sizes are bounded. -/
def Fits (n : Nat) (S : Nat → ByteArray) (tn q : ByteArray) (e : Ending) : Prop :=
  ∃ r : Bool, e = .returned (.bool r) ∧ (r = true → n ≤ 1048576 ∧ (∀ i, i < n → (S i).size ≤ 1048576) ∧ tn.size ≤ 1048576 ∧ q.size ≤ 1048576)
theorem hide {p : Prop} (h : p) : Hid p := h
theorem unhide {p : Prop} (h : Hid p) : p := h

set_option maxHeartbeats 400000 in
theorem stringsBytes_any (a : Option Addr) (n c : Nat) (S : Nat → ByteArray) (w : World) (hn : n ≤ 1048576) (hS : StrRow w a n S) :
    Calls Tryf.prog 6 #[.slice a n c] w fun e w' => (∃ r : Int, e = .returned (.int .i64 r) ∧ 0 ≤ r ∧ r ≤ 4194304) ∧ w' = w := by
  go_enter Tryf.func6, Tryf.ntmps6
  go_wp2
  go_loop [3, 4] (fun t i => ∃ (k : Nat) (z : Int), k ≤ n ∧ i = .int .i64 k ∧ t = .int .i64 z ∧ 0 ≤ z ∧ z ≤ 1048576) (fun _ i => n - (intOf i).toNat)
  case atStart => exact ⟨0, 0, Nat.zero_le _, rfl, rfl, by omega, by omega⟩
  case round =>
    obtain ⟨k, z, hk, rfl, rfl, hz0, hz1⟩ := hrel
    by_cases hlt : k < n
    · obtain ⟨b, off, rfl, hc⟩ := hS k hlt
      clear hS
      generalize S k = s at hc
      have hlt' : (k : Int) < (n : Int) := by omega
      by_cases hbig : (1048576 : Int) < (s.size : Int)
      · go_wp2
        go_ret
        exact ⟨⟨_, rfl, by omega, by omega⟩, rfl⟩
      · by_cases hb2 : (1048576 : Int) < z + (16 + (s.size : Int))
        · go_wp2
          go_ret
          exact ⟨⟨_, rfl, by omega, by omega⟩, rfl⟩
        · go_wp2
          go_round
          case rel => exact ⟨k + 1, _, by omega, by go_num, rfl, by omega, by omega⟩
          case measure => simp [intOf]; omega
    · go_wp2
      go_ret
      exact ⟨⟨_, rfl, by omega, by omega⟩, rfl⟩
set_option maxHeartbeats 1000000 in
theorem zzBytes13_any (a : Option Addr) (n c : Nat) (S : Nat → ByteArray) (tn q : ByteArray) (w : World) (hm : n ≤ 9223372036854775807) (htn : tn.size ≤ 9223372036854775807) (hq : q.size ≤ 9223372036854775807) (hS : StrRow w a n S) :
    Calls Tryf.prog 13 #[.slice a n c, .string tn, .string q] w fun e w' =>
      Fits n S tn q e ∧ w' = w := by
  go_enter Tryf.func13, Tryf.ntmps13
  by_cases hbn : (1048576 : Int) < (n : Int)
  · go_wp2
    go_ret
    exact ⟨⟨_, rfl, fun h => by cases h⟩, rfl⟩
  · go_wp2
    go_loop [7, 8] (fun t i => ∃ (k : Nat) (z : Int), k ≤ n ∧ i = .int .i64 k ∧ t = .int .i64 z ∧ 0 ≤ z ∧ z ≤ 1048576 ∧ (∀ j, j < k → (S j).size ≤ 1048576)) (fun _ i => n - (intOf i).toNat)
    case atStart => exact ⟨0, n, Nat.zero_le _, rfl, rfl, by omega, by omega, fun j h => by omega⟩
    case round =>
      obtain ⟨k, z, hk, rfl, rfl, hz0, hz1, hall⟩ := hrel
      have HA : Hid (∀ j, j < k → (S j).size ≤ 1048576) := hall
      clear hall
      by_cases hlt : k < n
      · obtain ⟨b, off, rfl, hc⟩ := hS k hlt
        clear hS
        have HA' : Hid (∀ v : ByteArray, v = S k → v.size ≤ 1048576 → ∀ j, j < k + 1 → (S j).size ≤ 1048576) := by
          intro v hv hsz j hj
          by_cases e : j = k
          · subst e; rw [← hv]; exact hsz
          · exact HA.out j (by omega)
        clear HA
        generalize hs : S k = s at hc
        have HS := hide hs
        clear hs
        have hlt' : (k : Int) < (n : Int) := by omega
        by_cases hbig : (1048576 : Int) < (s.size : Int)
        · go_wp2
          go_ret
          exact ⟨⟨_, rfl, fun h => by cases h⟩, rfl⟩
        · by_cases hb2 : (1048576 : Int) < z + (s.size : Int)
          · go_wp2
            go_ret
            exact ⟨⟨_, rfl, fun h => by cases h⟩, rfl⟩
          · go_wp2
            go_round
            case rel => exact ⟨k + 1, _, by omega, by go_num, rfl, by omega, by omega, HA'.out s (unhide HS).symm (by omega)⟩
            case measure => simp [intOf]; omega
      · clear hS
        by_cases h1 : (1048576 : Int) < (tn.size : Int)
        · go_wp2
          go_ret
          exact ⟨⟨_, rfl, fun h => by cases h⟩, rfl⟩
        · by_cases h2 : (1048576 : Int) < z + (tn.size : Int)
          · go_wp2
            go_ret
            exact ⟨⟨_, rfl, fun h => by cases h⟩, rfl⟩
          · by_cases h3 : (1048576 : Int) < (q.size : Int)
            · go_wp2
              go_ret
              exact ⟨⟨_, rfl, fun h => by cases h⟩, rfl⟩
            · by_cases h4 : (1048576 : Int) < z + (tn.size : Int) + (q.size : Int)
              · go_wp2
                go_ret
                exact ⟨⟨_, rfl, fun h => by cases h⟩, rfl⟩
              · go_wp2
                go_ret
                exact ⟨⟨_, rfl, fun _ => ⟨by omega, fun i hi => HA.out i (by omega), by omega, by omega⟩⟩, rfl⟩

set_option maxHeartbeats 1000000 in
theorem zzBytes5_any (a : Option Addr) (n c : Nat) (S : Nat → ByteArray) (tn q : ByteArray) (w : World) (hm : n ≤ 9223372036854775807) (htn : tn.size ≤ 9223372036854775807) (hq : q.size ≤ 9223372036854775807) (hS : StrRow w a n S) :
    Calls Tryf.prog 5 #[.slice a n c, .string tn, .string q] w fun e w' =>
      Fits n S tn q e ∧ w' = w := by
  go_enter Tryf.func5, Tryf.ntmps5
  by_cases hbn : (1048576 : Int) < (n : Int)
  · go_wp2
    go_ret
    exact ⟨⟨_, rfl, fun h => by cases h⟩, rfl⟩
  · go_wp2
    go_loop [7, 8] (fun t i => ∃ (k : Nat) (z : Int), k ≤ n ∧ i = .int .i64 k ∧ t = .int .i64 z ∧ 0 ≤ z ∧ z ≤ 1048576 ∧ (∀ j, j < k → (S j).size ≤ 1048576)) (fun _ i => n - (intOf i).toNat)
    case atStart => exact ⟨0, n, Nat.zero_le _, rfl, rfl, by omega, by omega, fun j h => by omega⟩
    case round =>
      obtain ⟨k, z, hk, rfl, rfl, hz0, hz1, hall⟩ := hrel
      have HA : Hid (∀ j, j < k → (S j).size ≤ 1048576) := hall
      clear hall
      by_cases hlt : k < n
      · obtain ⟨b, off, rfl, hc⟩ := hS k hlt
        clear hS
        have HA' : Hid (∀ v : ByteArray, v = S k → v.size ≤ 1048576 → ∀ j, j < k + 1 → (S j).size ≤ 1048576) := by
          intro v hv hsz j hj
          by_cases e : j = k
          · subst e; rw [← hv]; exact hsz
          · exact HA.out j (by omega)
        clear HA
        generalize hs : S k = s at hc
        have HS := hide hs
        clear hs
        have hlt' : (k : Int) < (n : Int) := by omega
        by_cases hbig : (1048576 : Int) < (s.size : Int)
        · go_wp2
          go_ret
          exact ⟨⟨_, rfl, fun h => by cases h⟩, rfl⟩
        · by_cases hb2 : (1048576 : Int) < z + (s.size : Int)
          · go_wp2
            go_ret
            exact ⟨⟨_, rfl, fun h => by cases h⟩, rfl⟩
          · go_wp2
            go_round
            case rel => exact ⟨k + 1, _, by omega, by go_num, rfl, by omega, by omega, HA'.out s (unhide HS).symm (by omega)⟩
            case measure => simp [intOf]; omega
      · clear hS
        by_cases h1 : (1048576 : Int) < (tn.size : Int)
        · go_wp2
          go_ret
          exact ⟨⟨_, rfl, fun h => by cases h⟩, rfl⟩
        · by_cases h2 : (1048576 : Int) < z + (tn.size : Int)
          · go_wp2
            go_ret
            exact ⟨⟨_, rfl, fun h => by cases h⟩, rfl⟩
          · by_cases h3 : (1048576 : Int) < (q.size : Int)
            · go_wp2
              go_ret
              exact ⟨⟨_, rfl, fun h => by cases h⟩, rfl⟩
            · by_cases h4 : (1048576 : Int) < z + (tn.size : Int) + (q.size : Int)
              · go_wp2
                go_ret
                exact ⟨⟨_, rfl, fun h => by cases h⟩, rfl⟩
              · go_wp2
                go_ret
                exact ⟨⟨_, rfl, fun _ => ⟨by omega, fun i hi => HA.out i (by omega), by omega, by omega⟩⟩, rfl⟩
end Go.Proofs.Qxb6604493aFmt
