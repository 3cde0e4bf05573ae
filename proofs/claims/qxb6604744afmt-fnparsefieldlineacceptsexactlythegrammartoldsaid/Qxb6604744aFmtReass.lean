/-
  The law's own zzReassembles: true of what parseFieldLine hands back.
-/
import Derived.Test.Qxb6604744aFmtGram
import Derived.Deep.Cut
import Derived.Deep.CutRange
namespace Go.Proofs.Qxb6604744aFmt
open Go.RowKit Go.Lib

set_option maxRecDepth 100000 in
set_option maxHeartbeats 4000000 in
theorem reass_any (s : ByteArray) (k : Nat) (w : World) (hs : s.size ≤ 262144) (hk : indexByte s.data.toList 58 = (k : Int)) :
    Calls Tryf.prog 8 #[.string s, .string (str (s.data.toList.take k)), .string (str (trimS (s.data.toList.drop (k + 1)) cuts))] w fun e w' => e = .returned (.bool true) ∧ w' = w := by
  have hlt := index_lt hk
  rw [← size_eq] at hlt
  obtain ⟨h58, _⟩ := indexByte_some hk
  rw [list_get s k hlt] at h58
  have h58' : (s[k]).toNat = 58 := by rw [Option.some.inj h58]; rfl
  obtain ⟨n, hn⟩ : ∃ n, str (s.data.toList.take k) = n := ⟨_, rfl⟩
  have hnk : n.size = k := by rw [← hn, str_size, List.length_take, ← size_eq]; omega
  have hne : (!((s.extract 0 k).toList == n.toList)) = false := by rw [ext_take, hn]; simp
  obtain ⟨R, hR⟩ : ∃ R, s.extract (k + 1) s.size = R := ⟨_, rfl⟩
  have hRl : R.data.toList = s.data.toList.drop (k + 1) := by rw [← hR, ext_drop]; exact str_toList _
  rw [← hRl]
  obtain ⟨lo, hi, l0, l1, et, a1, a2, a3⟩ := trim_split R.data.toList
  rw [← size_eq] at l1
  obtain ⟨v, hv⟩ : ∃ v, str (trimS R.data.toList cuts) = v := ⟨_, rfl⟩
  have hvl : v.data.toList = (R.data.toList.take hi).drop lo := by rw [← hv, str_toList]; exact et
  have hvs : v.size = hi - lo := by rw [size_eq, hvl, List.length_drop, List.length_take, ← size_eq]; omega
  obtain ⟨R2, hR2⟩ : ∃ R2, R.extract lo R.size = R2 := ⟨_, rfl⟩
  have hR2l : R2.data.toList = R.data.toList.drop lo := by rw [← hR2, ext_drop]; exact str_toList _
  have hR2s : R2.size = R.size - lo := by rw [size_eq, hR2l, List.length_drop, ← size_eq]
  have hRs : R.size = s.size - (k + 1) := by rw [size_eq, hRl, List.length_drop, ← size_eq]
  have hve : (!((R2.extract 0 v.size).toList == v.toList)) = false := by
    have : R2.extract 0 v.size = v := by
      rw [ext_take, hR2l, hvs, ← str_self v, hvl]
      congr 1
      rw [List.drop_take]
    rw [this]
    simp
  have A1 : Hid (∀ j, ∀ h : j < R.size, j < lo → wsp (R[j]).toNat) := fun j h hj => a1 j _ hj (list_get R j h)
  have A3 : Hid (∀ h : lo < R.size, ¬ wsp (R[lo]).toNat) := fun h => a3 _ (list_get R lo h)
  have A2 : Hid (∀ j, ∀ h : j < R2.size, v.size ≤ j → wsp (R2[j]).toNat) := by
    intro j h hj
    refine a2 (lo + j) _ (by omega) ?_
    rw [← list_get R2 j h, hR2l, List.getElem?_drop]
  rw [hn, hv]
  have HR := hide hR
  have HR2 := hide hR2
  have e58 : (((s[k]).toNat : Int) != 58) = false := by rw [h58']; rfl
  clear a1 a2 a3 et hvl hRl hR2l hn hv hk h58 hR hR2
  have q1 : ¬ (s.size : Int) < (k : Int) + 1 := by omega
  have q2 : (k : Int) ≤ (s.size : Int) := by omega
  have q3 : (k : Int) < (s.size : Int) := by omega
  have q4 : (s.extract 0 k).toList = n.toList := by simpa using hne
  have q5 : (k : Int) + 1 ≤ (s.size : Int) := by omega
  clear hne
  go_enter Tryf.func8, Tryf.ntmps8
  go_wp2_with fail
  rw [unhide HR]
  clear q1 q2 q3 q4 q5 e58 h58'
  have g1 : (lo : Int) ≤ (R.size : Int) := by omega
  have g2 : ¬ (R2.size : Int) < (v.size : Int) := by omega
  have g3 : (v.size : Int) ≤ (R2.size : Int) := by omega
  have g4 : (R2.extract 0 v.size).toList = v.toList := by simpa using hve
  have g5 : R.size ≤ 262144 := by omega
  have g6 : R2.size ≤ 262144 := by omega
  have g7 : v.size ≤ R2.size := by omega
  have g8 : lo ≤ R.size := by omega
  have g9 : ¬ R2.size < v.size := by omega
  have g10 : decide (R2.size < v.size) = false := decide_eq_false g9
  clear hve hRs hR2s hvs hnk hlt hs l0 l1
  go_loop [9] (fun i => ∃ k : Nat, k ≤ lo ∧ i = .int .i64 k) (fun i => R.size - (RowKit.intOf i).toNat)
  case atStart => exact ⟨0, Nat.zero_le _, rfl⟩
  case round =>
    obtain ⟨k2, hk2, rfl⟩ := hrel
    by_cases hlt2 : k2 < R.size
    · have hlt2' : (k2 : Int) < (R.size : Int) := by omega
      go_wp2_with fail
      refine (isWS_any (R[k2]).toNat (UInt8.toNat_lt _) w).mono ?_
      rintro e w' ⟨⟨r, rfl, hr⟩, rfl⟩
      by_cases hlo : k2 < lo
      · obtain rfl : r = true := hr.2 ((unhide A1) k2 hlt2 hlo)
        clear hr
        go_wp2
        go_round
        case rel => exact ⟨k2 + 1, by omega, by go_num⟩
        case measure => simp [RowKit.intOf]; omega
      · obtain rfl : k2 = lo := by omega
        obtain rfl : r = false := by
          cases r with
          | false => rfl
          | true => exact absurd (hr.1 rfl) ((unhide A3) hlt2)
        clear hr
        go_upto_region 9 with fail
        rw [unhide HR2]
        go_wp2_with fail
        go_loop [10] (fun i => ∃ k : Nat, v.size ≤ k ∧ k ≤ R2.size ∧ i = .int .i64 k) (fun i => R2.size - (RowKit.intOf i).toNat)
        case atStart => exact ⟨v.size, Nat.le_refl _, by omega, rfl⟩
        case round =>
          obtain ⟨k3, hk3, hk4, rfl⟩ := hrel
          by_cases hlt3 : k3 < R2.size
          · have hlt3' : (k3 : Int) < (R2.size : Int) := by omega
            go_wp2_with fail
            refine (isWS_any (R2[k3]).toNat (UInt8.toNat_lt _) _).mono ?_
            rintro e w' ⟨⟨r, rfl, hr⟩, rfl⟩
            obtain rfl : r = true := hr.2 ((unhide A2) k3 hlt3 hk3)
            clear hr
            go_wp2
            go_round
            case rel => exact ⟨k3 + 1, by omega, by omega, by go_num⟩
            case measure => simp [RowKit.intOf]; omega
          · have hlt3' : ¬ (k3 : Int) < (R2.size : Int) := by omega
            go_wp2
            go_ret
            exact ⟨rfl, rfl⟩
    · have hlt2' : ¬ (k2 : Int) < (R.size : Int) := by omega
      obtain rfl : k2 = lo := by omega
      go_upto_region 9 with fail
      rw [unhide HR2]
      go_wp2_with fail
      go_loop [10] (fun i => ∃ k : Nat, v.size ≤ k ∧ k ≤ R2.size ∧ i = .int .i64 k) (fun i => R2.size - (RowKit.intOf i).toNat)
      case atStart => exact ⟨v.size, Nat.le_refl _, by omega, rfl⟩
      case round =>
        obtain ⟨k3, hk3, hk4, rfl⟩ := hrel
        by_cases hlt3 : k3 < R2.size
        · have hlt3' : (k3 : Int) < (R2.size : Int) := by omega
          go_wp2_with fail
          refine (isWS_any (R2[k3]).toNat (UInt8.toNat_lt _) _).mono ?_
          rintro e w' ⟨⟨r, rfl, hr⟩, rfl⟩
          obtain rfl : r = true := hr.2 ((unhide A2) k3 hlt3 hk3)
          clear hr
          go_wp2
          go_round
          case rel => exact ⟨k3 + 1, by omega, by omega, by go_num⟩
          case measure => simp [RowKit.intOf]; omega
        · have hlt3' : ¬ (k3 : Int) < (R2.size : Int) := by omega
          go_wp2
          go_ret
          exact ⟨rfl, rfl⟩
end Go.Proofs.Qxb6604744aFmt
