/-
  The sizes: zzStringsBytes, zzNestedBytes, and the check on the sizes.
-/
import Derived.Test.Qxb6604757aDoorRows
import Derived.WalkKit
import Derived.WalkSpells
import Derived.WalkLawsBesides
namespace Go.Proofs.Qxb6604757aDoor
open Go.RowKit

theorem hide {p : Prop} (h : p) : Hid p := h
theorem unhide {p : Prop} (h : Hid p) : p := h

/-- A slice of strings in memory: its elements S 0 .. S (n-1). -/
def StrRow (w : World) (a : Option Addr) (n : Nat) (S : Nat → ByteArray) : Prop :=
  ∀ i, i < n → ∃ b off, a = some ⟨b, off, none⟩ ∧ w.cell? ⟨b, off + i, none⟩ = some (.string (S i))
/-- A slice of slices of strings in memory. -/
def NestRow (w : World) (a : Option Addr) (m : Nat) (A : Nat → Option Addr) (L C : Nat → Nat) (S : Nat → Nat → ByteArray) : Prop :=
  ∀ i, i < m → ∃ b off, a = some ⟨b, off, none⟩ ∧ w.cell? ⟨b, off + i, none⟩ = some (.slice (A i) (L i) (C i)) ∧ StrRow w (A i) (L i) (S i)

def IntPost (w : World) (e : Ending) (w' : World) : Prop := (∃ r : Int, e = .returned (.int .i64 r) ∧ 0 ≤ r ∧ r ≤ 4194304) ∧ w' = w

set_option maxHeartbeats 1000000 in
theorem stringsBytes_any (a : Option Addr) (n c : Nat) (S : Nat → ByteArray) (w : World) (hn : n ≤ 1048576) (hS : StrRow w a n S) :
    Calls Tryd.prog 5 #[.slice a n c] w fun e w' => IntPost w e w' := by
  go_enter Tryd.func5, Tryd.ntmps5
  go_wp2
  go_loop [3, 4] (fun t i => ∃ (k : Nat) (z : Int), k ≤ n ∧ i = .int .i64 k ∧ t = .int .i64 z ∧ 0 ≤ z ∧ z ≤ 1048576) (fun _ i => n - (intOf i).toNat)
  case atStart => exact ⟨0, 0, Nat.zero_le _, rfl, rfl, by omega, by omega⟩
  case round =>
    obtain ⟨k, z, hk, rfl, rfl, hz0, hz1⟩ := hrel
    by_cases hlt : k < n
    · obtain ⟨b, off, rfl, hc⟩ := hS k hlt
      clear hS
      generalize S k = s at hc
      have hlt' : (k : Int) < (n : Int) := by omega
      by_cases hbig : (1048576 : Int) < (s.size : Int)
      · go_wp2
        go_ret
        exact ⟨⟨_, rfl, by omega, by omega⟩, rfl⟩
      · by_cases hb2 : (1048576 : Int) < z + (16 + (s.size : Int))
        · go_wp2
          go_ret
          exact ⟨⟨_, rfl, by omega, by omega⟩, rfl⟩
        · go_wp2
          go_round
          case rel => exact ⟨k + 1, _, by omega, by go_num, rfl, by omega, by omega⟩
          case measure => simp [intOf]; omega
    · go_wp2
      go_ret
      exact ⟨⟨_, rfl, by omega, by omega⟩, rfl⟩

set_option maxHeartbeats 1000000 in
theorem nestedBytes_any (a : Option Addr) (m c : Nat) (A : Nat → Option Addr) (L C : Nat → Nat) (S : Nat → Nat → ByteArray) (w : World) (hm : m ≤ 1048576) (hL : ∀ i, i < m → L i ≤ 1048576) (hS : NestRow w a m A L C S) :
    Calls Tryd.prog 6 #[.slice a m c] w fun e w' => IntPost w e w' := by
  have HL := hide hL
  have HS := hide hS
  clear hL hS
  go_enter Tryd.func6, Tryd.ntmps6
  go_wp2
  go_loop [3, 4, 5] (fun t i _ => ∃ (k : Nat) (z : Int), k ≤ m ∧ i = .int .i64 k ∧ t = .int .i64 z ∧ 0 ≤ z ∧ z ≤ 1048576) (fun _ i _ => m - (intOf i).toNat)
  case atStart => exact ⟨0, 0, Nat.zero_le _, rfl, rfl, by omega, by omega⟩
  case round =>
    obtain ⟨k, z, hk, rfl, rfl, hz0, hz1⟩ := hrel
    by_cases hlt : k < m
    · obtain ⟨b, off, rfl, hc, hs⟩ := (unhide HS) k hlt
      have Hs := hide hs
      have hl := (unhide HL) k hlt
      clear hs
      generalize A k = a1 at hc Hs
      generalize L k = l1 at hc Hs hl
      generalize C k = c1 at hc
      have hlt' : (k : Int) < (m : Int) := by omega
      go_wp2_with fail
      refine (stringsBytes_any a1 l1 c1 _ _ hl (unhide Hs)).mono ?_
      rintro e w' ⟨⟨r, rfl, hr0, hr1⟩, rfl⟩
      by_cases hbig : (1048576 : Int) < r
      · go_wp2
        go_ret
        exact ⟨⟨_, rfl, by omega, by omega⟩, rfl⟩
      · by_cases hb2 : (1048576 : Int) < z + 24 + r
        · go_wp2
          go_ret
          exact ⟨⟨_, rfl, by omega, by omega⟩, rfl⟩
        · go_wp2
          go_round
          case rel => exact ⟨k + 1, _, by omega, by go_num, rfl, by omega, by omega⟩
          case measure => simp [intOf]; omega
    · have hlt' : ¬ (k : Int) < (m : Int) := by omega
      go_wp2
      go_ret
      exact ⟨⟨_, rfl, by omega, by omega⟩, rfl⟩

def Lim (n : Nat) (K : Nat → ByteArray) : Prop := n ≤ 1048576 ∧ ∀ i, i < n → (K i).size ≤ 1048576
def LimN (m : Nat) (L : Nat → Nat) (S : Nat → Nat → ByteArray) : Prop := m ≤ 1048576 ∧ ∀ i, i < m → Lim (L i) (S i)
/-- The answer of the check on sizes: where it is yes, the sizes are bounded. -/
def Fits (n : Nat) (K : Nat → ByteArray) (m : Nat) (L : Nat → Nat) (S : Nat → Nat → ByteArray) (q : Nat) (P : Nat → ByteArray) (w : World) (e : Ending) (w' : World) : Prop :=
  (∃ r : Bool, e = .returned (.bool r) ∧ (r = true → Lim n K ∧ LimN m L S ∧ Lim q P)) ∧ w' = w
theorem Fits.no {n : Nat} {K : Nat → ByteArray} {m : Nat} {L : Nat → Nat} {S : Nat → Nat → ByteArray} {q : Nat} {P : Nat → ByteArray} {w : World} : Fits n K m L S q P w (.returned (.bool false)) w := ⟨⟨false, rfl, fun h => by cases h⟩, rfl⟩

theorem all_succ {p : Nat → Prop} {k : Nat} (h : ∀ j, j < k → p j) (hk : p k) : ∀ j, j < k + 1 → p j := by
  intro j hj
  by_cases e : j = k
  · subst e; exact hk
  · exact h j (by omega)

set_option maxRecDepth 100000 in
set_option maxHeartbeats 4000000 in
theorem zzBytes_any (a : Option Addr) (n c : Nat) (K : Nat → ByteArray) (a2 : Option Addr) (m c2 : Nat) (A : Nat → Option Addr) (L C : Nat → Nat) (S : Nat → Nat → ByteArray) (a3 : Option Addr) (q c3 : Nat) (P : Nat → ByteArray) (w : World)
    (hn : n ≤ 9223372036854775807) (hm : m ≤ 9223372036854775807) (hq : q ≤ 9223372036854775807) (hL : ∀ i, i < m → L i ≤ 9223372036854775807) (hK : StrRow w a n K) (hS : NestRow w a2 m A L C S) (hP : StrRow w a3 q P) :
    Calls Tryd.prog 4 #[.slice a n c, .slice a2 m c2, .slice a3 q c3] w fun e w' => Fits n K m L S q P w e w' := by
  have HK := hide hK
  have HS := hide hS
  have HP := hide hP
  have HL := hide hL
  clear hK hS hP hL
  go_enter Tryd.func4, Tryd.ntmps4
  by_cases hbn : (1048576 : Int) < (n : Int)
  · go_wp2
    go_ret
    exact Fits.no
  · go_wp2_with fail
    go_loop [7, 8] (fun t i => ∃ (k : Nat) (z : Int), k ≤ n ∧ i = .int .i64 k ∧ t = .int .i64 z ∧ 0 ≤ z ∧ z ≤ 1048576 ∧ ∀ j, j < k → (K j).size ≤ 1048576) (fun _ i => n - (intOf i).toNat)
    case atStart => exact ⟨0, n, Nat.zero_le _, rfl, rfl, by omega, by omega, fun j h => by omega⟩
    case round =>
      obtain ⟨k, z, hk, rfl, rfl, hz0, hz1, hall⟩ := hrel
      have HA := hide hall
      clear hall
      by_cases hlt : k < n
      · obtain ⟨b, off, rfl, hc⟩ := (unhide HK) k hlt
        have hlt' : (k : Int) < (n : Int) := by omega
        obtain ⟨s, hs⟩ : ∃ s, K k = s := ⟨_, rfl⟩
        rw [hs] at hc
        have Hs := hide hs
        clear hs
        by_cases hbig : (1048576 : Int) < (s.size : Int)
        · go_wp2
          go_ret
          exact Fits.no
        · by_cases hb2 : (1048576 : Int) < z + (s.size : Int)
          · go_wp2
            go_ret
            exact Fits.no
          · go_wp2
            go_round
            case rel => exact ⟨k + 1, _, by omega, by go_num, rfl, by omega, by omega, all_succ (unhide HA) (by rw [unhide Hs]; omega)⟩
            case measure => simp [intOf]; omega
      · have hlt' : ¬ (k : Int) < (n : Int) := by omega
        have HKall : Hid (Lim n K) := ⟨by omega, fun j hj => unhide HA j (by omega)⟩
        clear HA
        by_cases hbm : (1048576 : Int) < (m : Int)
        · go_wp2
          go_ret
          exact Fits.no
        · by_cases hbm2 : (1048576 : Int) < z + (m : Int)
          · go_wp2
            go_ret
            exact Fits.no
          · go_wp2_with fail
            go_loop [7, 9, 10] (fun t i _ => ∃ (k : Nat) (z : Int), k ≤ m ∧ i = .int .i64 k ∧ t = .int .i64 z ∧ 0 ≤ z ∧ z ≤ 1048576 ∧ ∀ j, j < k → Lim (L j) (S j)) (fun _ i _ => m - (intOf i).toNat)
            case atStart => exact ⟨0, z + m, Nat.zero_le _, rfl, rfl, by omega, by omega, fun j h => by omega⟩
            case round =>
              clear hlt hlt' hbm2 hz0 hz1 hk
              obtain ⟨k2, z2, hk, rfl, rfl, hz0, hz1, hall⟩ := hrel
              have HA := hide hall
              clear hall
              by_cases hlt : k2 < m
              · obtain ⟨b, off, rfl, hc, hs⟩ := (unhide HS) k2 hlt
                have Hs := hide hs
                have hl := (unhide HL) k2 hlt
                clear hs
                have hlt' : (k2 : Int) < (m : Int) := by omega
                obtain ⟨l1, hl1⟩ : ∃ l, L k2 = l := ⟨_, rfl⟩
                rw [hl1] at hc hl Hs
                have Hl1 := hide hl1
                clear hl1
                generalize A k2 = a1 at hc Hs
                generalize C k2 = c1 at hc
                by_cases hbig : (1048576 : Int) < (l1 : Int)
                · go_wp2
                  go_ret
                  exact Fits.no
                · by_cases hb2 : (1048576 : Int) < z2 + (l1 : Int)
                  · go_wp2
                    go_ret
                    exact Fits.no
                  · go_wp2_with fail
                    go_loop [7, 10] (fun t i => ∃ (k : Nat) (z : Int), k ≤ l1 ∧ i = .int .i64 k ∧ t = .int .i64 z ∧ 0 ≤ z ∧ z ≤ 1048576 ∧ ∀ j, j < k → (S k2 j).size ≤ 1048576) (fun _ i => l1 - (intOf i).toNat)
                    case atStart => exact ⟨0, z2 + l1, Nat.zero_le _, rfl, rfl, by omega, by omega, fun j h => by omega⟩
                    case round =>
                      clear hb2 hz0 hz1
                      obtain ⟨k3, z3, hk3, rfl, rfl, hz0, hz1, hall⟩ := hrel
                      have HA3 := hide hall
                      clear hall
                      by_cases hlt3 : k3 < l1
                      · obtain ⟨b2, off2, rfl, hc2⟩ := (unhide Hs) k3 hlt3
                        have hlt3' : (k3 : Int) < (l1 : Int) := by omega
                        obtain ⟨s, hs⟩ : ∃ s, S k2 k3 = s := ⟨_, rfl⟩
                        rw [hs] at hc2
                        have Hss := hide hs
                        clear hs
                        by_cases hbig3 : (1048576 : Int) < (s.size : Int)
                        · go_wp2
                          go_ret
                          exact Fits.no
                        · by_cases hb3 : (1048576 : Int) < z3 + (s.size : Int)
                          · go_wp2
                            go_ret
                            exact Fits.no
                          · go_wp2
                            go_round
                            case rel => exact ⟨k3 + 1, _, by omega, by go_num, rfl, by omega, by omega, all_succ (unhide HA3) (by rw [unhide Hss]; omega)⟩
                            case measure => simp [intOf]; omega
                      · have hlt3' : ¬ (k3 : Int) < (l1 : Int) := by omega
                        have HLi : Hid (Lim (L k2) (S k2)) := ⟨by rw [unhide Hl1]; omega, fun j hj => unhide HA3 j (by rw [unhide Hl1] at hj; omega)⟩
                        clear HA3
                        go_wp2
                        go_round
                        case rel => exact ⟨k2 + 1, _, by omega, by go_num, rfl, by omega, by omega, all_succ (unhide HA) (unhide HLi)⟩
                        case measure => simp [intOf]; omega
              · have hlt' : ¬ (k2 : Int) < (m : Int) := by omega
                have HSall : Hid (LimN m L S) := ⟨by omega, fun j hj => unhide HA j (by omega)⟩
                clear HA
                by_cases hbq : (1048576 : Int) < (q : Int)
                · go_wp2
                  go_ret
                  exact Fits.no
                · by_cases hbq2 : (1048576 : Int) < z2 + (q : Int)
                  · go_wp2
                    go_ret
                    exact Fits.no
                  · go_wp2_with fail
                    go_loop [7, 11] (fun t i => ∃ (k : Nat) (z : Int), k ≤ q ∧ i = .int .i64 k ∧ t = .int .i64 z ∧ 0 ≤ z ∧ z ≤ 1048576 ∧ ∀ j, j < k → (P j).size ≤ 1048576) (fun _ i => q - (intOf i).toNat)
                    case atStart => exact ⟨0, z2 + q, Nat.zero_le _, rfl, rfl, by omega, by omega, fun j h => by omega⟩
                    case round =>
                      clear hbq2 hz0 hz1 hlt hlt' hk
                      obtain ⟨k4, z4, hk, rfl, rfl, hz0, hz1, hall⟩ := hrel
                      have HA := hide hall
                      clear hall
                      by_cases hlt : k4 < q
                      · obtain ⟨b, off, rfl, hc⟩ := (unhide HP) k4 hlt
                        have hlt' : (k4 : Int) < (q : Int) := by omega
                        obtain ⟨s, hs⟩ : ∃ s, P k4 = s := ⟨_, rfl⟩
                        rw [hs] at hc
                        have Hs := hide hs
                        clear hs
                        by_cases hbig : (1048576 : Int) < (s.size : Int)
                        · go_wp2
                          go_ret
                          exact Fits.no
                        · by_cases hb2 : (1048576 : Int) < z4 + (s.size : Int)
                          · go_wp2
                            go_ret
                            exact Fits.no
                          · go_wp2
                            go_round
                            case rel => exact ⟨k4 + 1, _, by omega, by go_num, rfl, by omega, by omega, all_succ (unhide HA) (by rw [unhide Hs]; omega)⟩
                            case measure => simp [intOf]; omega
                      · have hlt' : ¬ (k4 : Int) < (q : Int) := by omega
                        go_wp2
                        go_ret
                        exact ⟨⟨_, rfl, fun _ => ⟨unhide HKall, unhide HSall, by omega, fun j hj => unhide HA j (by omega)⟩⟩, rfl⟩
end Go.Proofs.Qxb6604757aDoor
