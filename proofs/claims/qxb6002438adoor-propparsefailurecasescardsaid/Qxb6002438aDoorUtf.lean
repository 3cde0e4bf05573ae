/-
  zzValidUTF8 answers as unicode/utf8's own test does.
-/
import Derived.Test.Qxb6002438aDoorSteps
import Derived.Lib.ValidLaws
import Derived.LoopN
namespace Go.Proofs.Qxb6002438aDoor
open Go.RowKit Go.Lib

theorem getD_drop (s : ByteArray) (k j : Nat) : ((s.data.toList.drop k).getD j 0).toNat = byt s (k + j) := by
  rw [List.getD_eq_getElem?_getD, List.getElem?_drop]
  by_cases h : k + j < s.size
  · have h' : k + j < s.data.toList.length := h
    rw [List.getElem?_eq_getElem h', byt_eq s (k + j) h]
    rfl
  · have h' : s.data.toList.length ≤ k + j := Nat.le_of_not_lt h
    rw [List.getElem?_eq_none h']
    unfold byt
    rw [show s.get! (k + j) = (0 : UInt8) from getElem!_neg s.data (k + j) h]
    rfl
theorem valid_ascii (s : ByteArray) (k : Nat) (hk : k < s.size) (h : byt s k < 128) : validD (s.data.toList.drop k) = validD (s.data.toList.drop (k + 1)) := by
  have h' : k < s.data.toList.length := hk
  rw [List.drop_eq_getElem_cons h']
  refine validD_cons _ _ ?_
  rw [byt_eq s k hk] at h
  exact h
theorem valid_lead (s : ByteArray) (k : Nat) (hk : k < s.size) (h0 : 128 ≤ byt s k) (sz lo hi : Nat) (e1 : firstT (byt s k) % 8 = sz) (e2 : accLo (firstT (byt s k) / 16) = lo) (e3 : accHi (firstT (byt s k) / 16) = hi) :
    validD (s.data.toList.drop k) = match checkN (s.size - k) (byt s (k + 1)) (byt s (k + 2)) (byt s (k + 3)) sz lo hi with
      | none => false
      | some j => validD (s.data.toList.drop (k + j)) := by
  have hne : s.data.toList.drop k ≠ [] := by
    intro e
    have := congrArg List.length e
    rw [List.length_drop] at this
    have h2 : s.data.toList.length = s.size := rfl
    simp at this
    omega
  rw [validD_lead _ hne (by rw [getD_drop]; exact h0)]
  simp only [getD_drop, Nat.add_zero, e1, e2, e3, List.length_drop, List.drop_drop]
  rfl
theorem valid_bad (s : ByteArray) (k : Nat) (hk : k < s.size) (h : (128 ≤ byt s k ∧ byt s k < 194) ∨ 244 < byt s k) : validD (s.data.toList.drop k) = false := by
  have hlt : byt s k < 256 := by rw [byt_eq s k hk]; exact UInt8.toNat_lt _
  rw [valid_lead s k hk (by omega) 1 0 0 ?_ ?_ ?_]
  · simp [checkN]
  all_goals
    unfold firstT
    rcases h with ⟨h1, h2⟩ | h1
    · simp [show ¬ byt s k < 128 by omega, h2, accLo, accHi]
    · simp [show ¬ byt s k < 128 by omega, show ¬ byt s k < 194 by omega, show ¬ byt s k < 224 by omega, show ¬ byt s k = 224 by omega, show ¬ byt s k < 237 by omega, show ¬ byt s k = 237 by omega, show ¬ byt s k < 240 by omega, show ¬ byt s k = 240 by omega, show ¬ byt s k < 244 by omega, show ¬ byt s k = 244 by omega, accLo, accHi]

set_option maxRecDepth 100000 in
set_option maxHeartbeats 8000000 in
theorem valid_any (s : ByteArray) (w : World) (hs : s.size ≤ 1048576) : Calls Tryd.prog 25 #[.string s] w fun e w' => e = .returned (.bool (validD s.data.toList)) ∧ w' = w := by
  generalize hv : validD s.data.toList = v
  have Hv : Hid (v = validD (s.data.toList.drop 0)) := hv.symm
  clear hv
  go_enter Tryd.func25, Tryd.ntmps25
  go_wp2_with fail
  go_loop [3, 4, 5, 6, 7, 8, 9] (fun iv _ _ _ _ _ _ => ∃ k : Nat, k ≤ s.size ∧ iv = .int .i64 k ∧ v = validD (s.data.toList.drop k)) (fun iv _ _ _ _ _ _ => s.size - (RowKit.intOf iv).toNat)
  case atStart => exact ⟨0, Nat.zero_le _, rfl, unhide Hv⟩
  case round =>
    obtain ⟨k, hk, rfl, hR⟩ := hrel
    have HR := hide hR
    clear hR Hv
    by_cases hlt : k < s.size
    · have hlt' : (k : Int) < (s.size : Int) := by omega
      have hb := byt_eq s k hlt
      have h256 : (s[k]).toNat < 256 := UInt8.toNat_lt _
      by_cases h128 : (s[k]).toNat < 128
      · have h128' : ((s[k]).toNat : Int) < 128 := by omega
        have HF := hide ((unhide HR).trans (valid_ascii s k hlt (by omega)))
        clear HR hb
        go_wp2
        go_round
        case rel => exact ⟨k + 1, by omega, by go_num, unhide HF⟩
        case measure => simp [RowKit.intOf]; omega
      have h128' : ¬ ((s[k]).toNat : Int) < 128 := by omega
      by_cases cA : 194 ≤ (s[k]).toNat ∧ (s[k]).toNat ≤ 223
      · have e1 : firstT (byt s k) % 8 = 2 ∧ accLo (firstT (byt s k) / 16) = 128 ∧ accHi (firstT (byt s k) / 16) = 191 := by
          rw [hb]
          simp [firstT, accLo, accHi, show ¬ (s[k]).toNat < 128 by omega, show ¬ (s[k]).toNat < 194 by omega, show (s[k]).toNat < 224 by omega]
        have HV := hide ((unhide HR).trans (valid_lead s k hlt (by omega) 2 128 191 e1.1 e1.2.1 e1.2.2))
        have f1 : (194 : Int) ≤ ((s[k]).toNat : Int) := by omega
        have f2 : ((s[k]).toNat : Int) ≤ 223 := by omega
        clear HR e1
        by_cases hlen : s.size - k ≤ 1
        · have hlen' : (s.size : Int) - (k : Int) ≤ 1 := by omega
          have HF : Hid (v = false) := by
            show v = false
            rw [unhide HV, show checkN (s.size - k) (byt s (k + 1)) (byt s (k + 2)) (byt s (k + 3)) 2 128 191 = none from by simp [checkN]; omega]
          clear HV
          go_wp2
          go_ret
          exact ⟨by rw [unhide HF]; rfl, rfl⟩
        have hlen' : ¬ (s.size : Int) - (k : Int) ≤ 1 := by omega
        have hj1 : k + 1 < s.size := by omega
        have hj1' : (k : Int) + 1 < (s.size : Int) := by omega
        have hb1 := byt_eq s (k + 1) hj1
        by_cases hx1 : (s[k + 1]).toNat < 128
        · have gx1 : ((s[k + 1]).toNat : Int) < 128 := by omega
          have HF : Hid (v = false) := by
            show v = false
            rw [unhide HV, show checkN (s.size - k) (byt s (k + 1)) (byt s (k + 2)) (byt s (k + 3)) 2 128 191 = none from by simp [checkN]; omega]
          clear HV
          go_wp2
          go_ret
          exact ⟨by rw [unhide HF]; rfl, rfl⟩
        have gx1 : ¬ ((s[k + 1]).toNat : Int) < 128 := by omega
        by_cases hy1 : 191 < (s[k + 1]).toNat
        · have gy1 : (191 : Int) < ((s[k + 1]).toNat : Int) := by omega
          have HF : Hid (v = false) := by
            show v = false
            rw [unhide HV, show checkN (s.size - k) (byt s (k + 1)) (byt s (k + 2)) (byt s (k + 3)) 2 128 191 = none from by simp [checkN]; omega]
          clear HV
          go_wp2
          go_ret
          exact ⟨by rw [unhide HF]; rfl, rfl⟩
        have gy1 : ¬ (191 : Int) < ((s[k + 1]).toNat : Int) := by omega
        have HF : Hid (v = validD (s.data.toList.drop (k + 2))) := by
          show v = _
          rw [unhide HV, show checkN (s.size - k) (byt s (k + 1)) (byt s (k + 2)) (byt s (k + 3)) 2 128 191 = some 2 from by simp [checkN]; omega]
        clear HV
        go_wp2_with fail
        refine wp_loop_rounds 4 ?_
        rw [rounds_succ]
        go_wp2
        go_round
        case rel => exact ⟨k + 2, by omega, by go_num, unhide HF⟩
        case measure => simp [RowKit.intOf]; omega
      by_cases cB : (s[k]).toNat = 224
      · have e1 : firstT (byt s k) % 8 = 3 ∧ accLo (firstT (byt s k) / 16) = 160 ∧ accHi (firstT (byt s k) / 16) = 191 := by
          rw [hb]
          rw [cB]; decide
        have HV := hide ((unhide HR).trans (valid_lead s k hlt (by omega) 3 160 191 e1.1 e1.2.1 e1.2.2))
        have f1 : (194 : Int) ≤ ((s[k]).toNat : Int) := by omega
        have f2 : ¬ ((s[k]).toNat : Int) ≤ 223 := by omega
        have f3 : (224 : Int) ≤ ((s[k]).toNat : Int) := by omega
        have f4 : ((s[k]).toNat : Int) ≤ 239 := by omega
        have q224 : (((s[k]).toNat : Int) == 224) = true := beq_iff_eq.2 (by omega)
        clear HR e1
        by_cases hlen : s.size - k ≤ 2
        · have hlen' : (s.size : Int) - (k : Int) ≤ 2 := by omega
          have HF : Hid (v = false) := by
            show v = false
            rw [unhide HV, show checkN (s.size - k) (byt s (k + 1)) (byt s (k + 2)) (byt s (k + 3)) 3 160 191 = none from by simp [checkN]; omega]
          clear HV
          go_wp2
          go_ret
          exact ⟨by rw [unhide HF]; rfl, rfl⟩
        have hlen' : ¬ (s.size : Int) - (k : Int) ≤ 2 := by omega
        have hj1 : k + 1 < s.size := by omega
        have hj1' : (k : Int) + 1 < (s.size : Int) := by omega
        have hb1 := byt_eq s (k + 1) hj1
        have hj2 : k + 2 < s.size := by omega
        have hj2' : (k : Int) + 2 < (s.size : Int) := by omega
        have hb2 := byt_eq s (k + 2) hj2
        by_cases hx1 : (s[k + 1]).toNat < 160
        · have gx1 : ((s[k + 1]).toNat : Int) < 160 := by omega
          have HF : Hid (v = false) := by
            show v = false
            rw [unhide HV, show checkN (s.size - k) (byt s (k + 1)) (byt s (k + 2)) (byt s (k + 3)) 3 160 191 = none from by simp [checkN]; omega]
          clear HV
          go_wp2
          go_ret
          exact ⟨by rw [unhide HF]; rfl, rfl⟩
        have gx1 : ¬ ((s[k + 1]).toNat : Int) < 160 := by omega
        by_cases hy1 : 191 < (s[k + 1]).toNat
        · have gy1 : (191 : Int) < ((s[k + 1]).toNat : Int) := by omega
          have HF : Hid (v = false) := by
            show v = false
            rw [unhide HV, show checkN (s.size - k) (byt s (k + 1)) (byt s (k + 2)) (byt s (k + 3)) 3 160 191 = none from by simp [checkN]; omega]
          clear HV
          go_wp2
          go_ret
          exact ⟨by rw [unhide HF]; rfl, rfl⟩
        have gy1 : ¬ (191 : Int) < ((s[k + 1]).toNat : Int) := by omega
        by_cases hx2 : (s[k + 2]).toNat < 128
        · have gx2 : ((s[k + 2]).toNat : Int) < 128 := by omega
          have HF : Hid (v = false) := by
            show v = false
            rw [unhide HV, show checkN (s.size - k) (byt s (k + 1)) (byt s (k + 2)) (byt s (k + 3)) 3 160 191 = none from by simp [checkN]; omega]
          clear HV
          go_wp2_with fail
          refine wp_loop_rounds 4 ?_
          rw [rounds_succ]
          go_wp2
          go_ret
          exact ⟨by rw [unhide HF]; rfl, rfl⟩
        have gx2 : ¬ ((s[k + 2]).toNat : Int) < 128 := by omega
        by_cases hy2 : 191 < (s[k + 2]).toNat
        · have gy2 : (191 : Int) < ((s[k + 2]).toNat : Int) := by omega
          have HF : Hid (v = false) := by
            show v = false
            rw [unhide HV, show checkN (s.size - k) (byt s (k + 1)) (byt s (k + 2)) (byt s (k + 3)) 3 160 191 = none from by simp [checkN]; omega]
          clear HV
          go_wp2_with fail
          refine wp_loop_rounds 4 ?_
          rw [rounds_succ]
          go_wp2
          go_ret
          exact ⟨by rw [unhide HF]; rfl, rfl⟩
        have gy2 : ¬ (191 : Int) < ((s[k + 2]).toNat : Int) := by omega
        have HF : Hid (v = validD (s.data.toList.drop (k + 3))) := by
          show v = _
          rw [unhide HV, show checkN (s.size - k) (byt s (k + 1)) (byt s (k + 2)) (byt s (k + 3)) 3 160 191 = some 3 from by simp [checkN]; omega]
        clear HV
        go_wp2_with fail
        refine wp_loop_rounds 4 ?_
        rw [rounds_succ]
        go_wp2_with fail
        rw [rounds_succ]
        go_wp2
        go_round
        case rel => exact ⟨k + 3, by omega, by go_num, unhide HF⟩
        case measure => simp [RowKit.intOf]; omega
      by_cases cC : (225 ≤ (s[k]).toNat ∧ (s[k]).toNat ≤ 236) ∨ (238 ≤ (s[k]).toNat ∧ (s[k]).toNat ≤ 239)
      · have e1 : firstT (byt s k) % 8 = 3 ∧ accLo (firstT (byt s k) / 16) = 128 ∧ accHi (firstT (byt s k) / 16) = 191 := by
          rw [hb]
          rcases cC with ⟨x1, x2⟩ | ⟨x1, x2⟩
          · simp [firstT, accLo, accHi, show ¬ (s[k]).toNat < 128 by omega, show ¬ (s[k]).toNat < 194 by omega, show ¬ (s[k]).toNat < 224 by omega, show ¬ (s[k]).toNat = 224 by omega, show (s[k]).toNat < 237 by omega]
          · simp [firstT, accLo, accHi, show ¬ (s[k]).toNat < 128 by omega, show ¬ (s[k]).toNat < 194 by omega, show ¬ (s[k]).toNat < 224 by omega, show ¬ (s[k]).toNat = 224 by omega, show ¬ (s[k]).toNat < 237 by omega, show ¬ (s[k]).toNat = 237 by omega, show (s[k]).toNat < 240 by omega]
        have HV := hide ((unhide HR).trans (valid_lead s k hlt (by omega) 3 128 191 e1.1 e1.2.1 e1.2.2))
        have f1 : (194 : Int) ≤ ((s[k]).toNat : Int) := by omega
        have f2 : ¬ ((s[k]).toNat : Int) ≤ 223 := by omega
        have f3 : (224 : Int) ≤ ((s[k]).toNat : Int) := by omega
        have f4 : ((s[k]).toNat : Int) ≤ 239 := by omega
        have q224 : (((s[k]).toNat : Int) == 224) = false := beq_eq_false_iff_ne.2 (by omega)
        have q237 : (((s[k]).toNat : Int) == 237) = false := beq_eq_false_iff_ne.2 (by omega)
        clear HR e1
        by_cases hlen : s.size - k ≤ 2
        · have hlen' : (s.size : Int) - (k : Int) ≤ 2 := by omega
          have HF : Hid (v = false) := by
            show v = false
            rw [unhide HV, show checkN (s.size - k) (byt s (k + 1)) (byt s (k + 2)) (byt s (k + 3)) 3 128 191 = none from by simp [checkN]; omega]
          clear HV
          go_wp2
          go_ret
          exact ⟨by rw [unhide HF]; rfl, rfl⟩
        have hlen' : ¬ (s.size : Int) - (k : Int) ≤ 2 := by omega
        have hj1 : k + 1 < s.size := by omega
        have hj1' : (k : Int) + 1 < (s.size : Int) := by omega
        have hb1 := byt_eq s (k + 1) hj1
        have hj2 : k + 2 < s.size := by omega
        have hj2' : (k : Int) + 2 < (s.size : Int) := by omega
        have hb2 := byt_eq s (k + 2) hj2
        by_cases hx1 : (s[k + 1]).toNat < 128
        · have gx1 : ((s[k + 1]).toNat : Int) < 128 := by omega
          have HF : Hid (v = false) := by
            show v = false
            rw [unhide HV, show checkN (s.size - k) (byt s (k + 1)) (byt s (k + 2)) (byt s (k + 3)) 3 128 191 = none from by simp [checkN]; omega]
          clear HV
          go_wp2
          go_ret
          exact ⟨by rw [unhide HF]; rfl, rfl⟩
        have gx1 : ¬ ((s[k + 1]).toNat : Int) < 128 := by omega
        by_cases hy1 : 191 < (s[k + 1]).toNat
        · have gy1 : (191 : Int) < ((s[k + 1]).toNat : Int) := by omega
          have HF : Hid (v = false) := by
            show v = false
            rw [unhide HV, show checkN (s.size - k) (byt s (k + 1)) (byt s (k + 2)) (byt s (k + 3)) 3 128 191 = none from by simp [checkN]; omega]
          clear HV
          go_wp2
          go_ret
          exact ⟨by rw [unhide HF]; rfl, rfl⟩
        have gy1 : ¬ (191 : Int) < ((s[k + 1]).toNat : Int) := by omega
        by_cases hx2 : (s[k + 2]).toNat < 128
        · have gx2 : ((s[k + 2]).toNat : Int) < 128 := by omega
          have HF : Hid (v = false) := by
            show v = false
            rw [unhide HV, show checkN (s.size - k) (byt s (k + 1)) (byt s (k + 2)) (byt s (k + 3)) 3 128 191 = none from by simp [checkN]; omega]
          clear HV
          go_wp2_with fail
          refine wp_loop_rounds 4 ?_
          rw [rounds_succ]
          go_wp2
          go_ret
          exact ⟨by rw [unhide HF]; rfl, rfl⟩
        have gx2 : ¬ ((s[k + 2]).toNat : Int) < 128 := by omega
        by_cases hy2 : 191 < (s[k + 2]).toNat
        · have gy2 : (191 : Int) < ((s[k + 2]).toNat : Int) := by omega
          have HF : Hid (v = false) := by
            show v = false
            rw [unhide HV, show checkN (s.size - k) (byt s (k + 1)) (byt s (k + 2)) (byt s (k + 3)) 3 128 191 = none from by simp [checkN]; omega]
          clear HV
          go_wp2_with fail
          refine wp_loop_rounds 4 ?_
          rw [rounds_succ]
          go_wp2
          go_ret
          exact ⟨by rw [unhide HF]; rfl, rfl⟩
        have gy2 : ¬ (191 : Int) < ((s[k + 2]).toNat : Int) := by omega
        have HF : Hid (v = validD (s.data.toList.drop (k + 3))) := by
          show v = _
          rw [unhide HV, show checkN (s.size - k) (byt s (k + 1)) (byt s (k + 2)) (byt s (k + 3)) 3 128 191 = some 3 from by simp [checkN]; omega]
        clear HV
        go_wp2_with fail
        refine wp_loop_rounds 4 ?_
        rw [rounds_succ]
        go_wp2_with fail
        rw [rounds_succ]
        go_wp2
        go_round
        case rel => exact ⟨k + 3, by omega, by go_num, unhide HF⟩
        case measure => simp [RowKit.intOf]; omega
      by_cases cD : (s[k]).toNat = 237
      · have e1 : firstT (byt s k) % 8 = 3 ∧ accLo (firstT (byt s k) / 16) = 128 ∧ accHi (firstT (byt s k) / 16) = 159 := by
          rw [hb]
          rw [cD]; decide
        have HV := hide ((unhide HR).trans (valid_lead s k hlt (by omega) 3 128 159 e1.1 e1.2.1 e1.2.2))
        have f1 : (194 : Int) ≤ ((s[k]).toNat : Int) := by omega
        have f2 : ¬ ((s[k]).toNat : Int) ≤ 223 := by omega
        have f3 : (224 : Int) ≤ ((s[k]).toNat : Int) := by omega
        have f4 : ((s[k]).toNat : Int) ≤ 239 := by omega
        have q224 : (((s[k]).toNat : Int) == 224) = false := beq_eq_false_iff_ne.2 (by omega)
        have q237 : (((s[k]).toNat : Int) == 237) = true := beq_iff_eq.2 (by omega)
        clear HR e1
        by_cases hlen : s.size - k ≤ 2
        · have hlen' : (s.size : Int) - (k : Int) ≤ 2 := by omega
          have HF : Hid (v = false) := by
            show v = false
            rw [unhide HV, show checkN (s.size - k) (byt s (k + 1)) (byt s (k + 2)) (byt s (k + 3)) 3 128 159 = none from by simp [checkN]; omega]
          clear HV
          go_wp2
          go_ret
          exact ⟨by rw [unhide HF]; rfl, rfl⟩
        have hlen' : ¬ (s.size : Int) - (k : Int) ≤ 2 := by omega
        have hj1 : k + 1 < s.size := by omega
        have hj1' : (k : Int) + 1 < (s.size : Int) := by omega
        have hb1 := byt_eq s (k + 1) hj1
        have hj2 : k + 2 < s.size := by omega
        have hj2' : (k : Int) + 2 < (s.size : Int) := by omega
        have hb2 := byt_eq s (k + 2) hj2
        by_cases hx1 : (s[k + 1]).toNat < 128
        · have gx1 : ((s[k + 1]).toNat : Int) < 128 := by omega
          have HF : Hid (v = false) := by
            show v = false
            rw [unhide HV, show checkN (s.size - k) (byt s (k + 1)) (byt s (k + 2)) (byt s (k + 3)) 3 128 159 = none from by simp [checkN]; omega]
          clear HV
          go_wp2
          go_ret
          exact ⟨by rw [unhide HF]; rfl, rfl⟩
        have gx1 : ¬ ((s[k + 1]).toNat : Int) < 128 := by omega
        by_cases hy1 : 159 < (s[k + 1]).toNat
        · have gy1 : (159 : Int) < ((s[k + 1]).toNat : Int) := by omega
          have HF : Hid (v = false) := by
            show v = false
            rw [unhide HV, show checkN (s.size - k) (byt s (k + 1)) (byt s (k + 2)) (byt s (k + 3)) 3 128 159 = none from by simp [checkN]; omega]
          clear HV
          go_wp2
          go_ret
          exact ⟨by rw [unhide HF]; rfl, rfl⟩
        have gy1 : ¬ (159 : Int) < ((s[k + 1]).toNat : Int) := by omega
        by_cases hx2 : (s[k + 2]).toNat < 128
        · have gx2 : ((s[k + 2]).toNat : Int) < 128 := by omega
          have HF : Hid (v = false) := by
            show v = false
            rw [unhide HV, show checkN (s.size - k) (byt s (k + 1)) (byt s (k + 2)) (byt s (k + 3)) 3 128 159 = none from by simp [checkN]; omega]
          clear HV
          go_wp2_with fail
          refine wp_loop_rounds 4 ?_
          rw [rounds_succ]
          go_wp2
          go_ret
          exact ⟨by rw [unhide HF]; rfl, rfl⟩
        have gx2 : ¬ ((s[k + 2]).toNat : Int) < 128 := by omega
        by_cases hy2 : 191 < (s[k + 2]).toNat
        · have gy2 : (191 : Int) < ((s[k + 2]).toNat : Int) := by omega
          have HF : Hid (v = false) := by
            show v = false
            rw [unhide HV, show checkN (s.size - k) (byt s (k + 1)) (byt s (k + 2)) (byt s (k + 3)) 3 128 159 = none from by simp [checkN]; omega]
          clear HV
          go_wp2_with fail
          refine wp_loop_rounds 4 ?_
          rw [rounds_succ]
          go_wp2
          go_ret
          exact ⟨by rw [unhide HF]; rfl, rfl⟩
        have gy2 : ¬ (191 : Int) < ((s[k + 2]).toNat : Int) := by omega
        have HF : Hid (v = validD (s.data.toList.drop (k + 3))) := by
          show v = _
          rw [unhide HV, show checkN (s.size - k) (byt s (k + 1)) (byt s (k + 2)) (byt s (k + 3)) 3 128 159 = some 3 from by simp [checkN]; omega]
        clear HV
        go_wp2_with fail
        refine wp_loop_rounds 4 ?_
        rw [rounds_succ]
        go_wp2_with fail
        rw [rounds_succ]
        go_wp2
        go_round
        case rel => exact ⟨k + 3, by omega, by go_num, unhide HF⟩
        case measure => simp [RowKit.intOf]; omega
      by_cases cE : (s[k]).toNat = 240
      · have e1 : firstT (byt s k) % 8 = 4 ∧ accLo (firstT (byt s k) / 16) = 144 ∧ accHi (firstT (byt s k) / 16) = 191 := by
          rw [hb]
          rw [cE]; decide
        have HV := hide ((unhide HR).trans (valid_lead s k hlt (by omega) 4 144 191 e1.1 e1.2.1 e1.2.2))
        have f1 : (194 : Int) ≤ ((s[k]).toNat : Int) := by omega
        have f2 : ¬ ((s[k]).toNat : Int) ≤ 223 := by omega
        have f3 : (224 : Int) ≤ ((s[k]).toNat : Int) := by omega
        have f4 : ¬ ((s[k]).toNat : Int) ≤ 239 := by omega
        have f5 : (240 : Int) ≤ ((s[k]).toNat : Int) := by omega
        have f6 : ((s[k]).toNat : Int) ≤ 244 := by omega
        have q240 : (((s[k]).toNat : Int) == 240) = true := beq_iff_eq.2 (by omega)
        clear HR e1
        by_cases hlen : s.size - k ≤ 3
        · have hlen' : (s.size : Int) - (k : Int) ≤ 3 := by omega
          have HF : Hid (v = false) := by
            show v = false
            rw [unhide HV, show checkN (s.size - k) (byt s (k + 1)) (byt s (k + 2)) (byt s (k + 3)) 4 144 191 = none from by simp [checkN]; omega]
          clear HV
          go_wp2
          go_ret
          exact ⟨by rw [unhide HF]; rfl, rfl⟩
        have hlen' : ¬ (s.size : Int) - (k : Int) ≤ 3 := by omega
        have hj1 : k + 1 < s.size := by omega
        have hj1' : (k : Int) + 1 < (s.size : Int) := by omega
        have hb1 := byt_eq s (k + 1) hj1
        have hj2 : k + 2 < s.size := by omega
        have hj2' : (k : Int) + 2 < (s.size : Int) := by omega
        have hb2 := byt_eq s (k + 2) hj2
        have hj3 : k + 3 < s.size := by omega
        have hj3' : (k : Int) + 3 < (s.size : Int) := by omega
        have hb3 := byt_eq s (k + 3) hj3
        by_cases hx1 : (s[k + 1]).toNat < 144
        · have gx1 : ((s[k + 1]).toNat : Int) < 144 := by omega
          have HF : Hid (v = false) := by
            show v = false
            rw [unhide HV, show checkN (s.size - k) (byt s (k + 1)) (byt s (k + 2)) (byt s (k + 3)) 4 144 191 = none from by simp [checkN]; omega]
          clear HV
          go_wp2
          go_ret
          exact ⟨by rw [unhide HF]; rfl, rfl⟩
        have gx1 : ¬ ((s[k + 1]).toNat : Int) < 144 := by omega
        by_cases hy1 : 191 < (s[k + 1]).toNat
        · have gy1 : (191 : Int) < ((s[k + 1]).toNat : Int) := by omega
          have HF : Hid (v = false) := by
            show v = false
            rw [unhide HV, show checkN (s.size - k) (byt s (k + 1)) (byt s (k + 2)) (byt s (k + 3)) 4 144 191 = none from by simp [checkN]; omega]
          clear HV
          go_wp2
          go_ret
          exact ⟨by rw [unhide HF]; rfl, rfl⟩
        have gy1 : ¬ (191 : Int) < ((s[k + 1]).toNat : Int) := by omega
        by_cases hx2 : (s[k + 2]).toNat < 128
        · have gx2 : ((s[k + 2]).toNat : Int) < 128 := by omega
          have HF : Hid (v = false) := by
            show v = false
            rw [unhide HV, show checkN (s.size - k) (byt s (k + 1)) (byt s (k + 2)) (byt s (k + 3)) 4 144 191 = none from by simp [checkN]; omega]
          clear HV
          go_wp2_with fail
          refine wp_loop_rounds 4 ?_
          rw [rounds_succ]
          go_wp2
          go_ret
          exact ⟨by rw [unhide HF]; rfl, rfl⟩
        have gx2 : ¬ ((s[k + 2]).toNat : Int) < 128 := by omega
        by_cases hy2 : 191 < (s[k + 2]).toNat
        · have gy2 : (191 : Int) < ((s[k + 2]).toNat : Int) := by omega
          have HF : Hid (v = false) := by
            show v = false
            rw [unhide HV, show checkN (s.size - k) (byt s (k + 1)) (byt s (k + 2)) (byt s (k + 3)) 4 144 191 = none from by simp [checkN]; omega]
          clear HV
          go_wp2_with fail
          refine wp_loop_rounds 4 ?_
          rw [rounds_succ]
          go_wp2
          go_ret
          exact ⟨by rw [unhide HF]; rfl, rfl⟩
        have gy2 : ¬ (191 : Int) < ((s[k + 2]).toNat : Int) := by omega
        by_cases hx3 : (s[k + 3]).toNat < 128
        · have gx3 : ((s[k + 3]).toNat : Int) < 128 := by omega
          have HF : Hid (v = false) := by
            show v = false
            rw [unhide HV, show checkN (s.size - k) (byt s (k + 1)) (byt s (k + 2)) (byt s (k + 3)) 4 144 191 = none from by simp [checkN]; omega]
          clear HV
          go_wp2_with fail
          refine wp_loop_rounds 4 ?_
          rw [rounds_succ]
          go_wp2_with fail
          rw [rounds_succ]
          go_wp2
          go_ret
          exact ⟨by rw [unhide HF]; rfl, rfl⟩
        have gx3 : ¬ ((s[k + 3]).toNat : Int) < 128 := by omega
        by_cases hy3 : 191 < (s[k + 3]).toNat
        · have gy3 : (191 : Int) < ((s[k + 3]).toNat : Int) := by omega
          have HF : Hid (v = false) := by
            show v = false
            rw [unhide HV, show checkN (s.size - k) (byt s (k + 1)) (byt s (k + 2)) (byt s (k + 3)) 4 144 191 = none from by simp [checkN]; omega]
          clear HV
          go_wp2_with fail
          refine wp_loop_rounds 4 ?_
          rw [rounds_succ]
          go_wp2_with fail
          rw [rounds_succ]
          go_wp2
          go_ret
          exact ⟨by rw [unhide HF]; rfl, rfl⟩
        have gy3 : ¬ (191 : Int) < ((s[k + 3]).toNat : Int) := by omega
        have HF : Hid (v = validD (s.data.toList.drop (k + 4))) := by
          show v = _
          rw [unhide HV, show checkN (s.size - k) (byt s (k + 1)) (byt s (k + 2)) (byt s (k + 3)) 4 144 191 = some 4 from by simp [checkN]; omega]
        clear HV
        go_wp2_with fail
        refine wp_loop_rounds 4 ?_
        rw [rounds_succ]
        go_wp2_with fail
        rw [rounds_succ]
        go_wp2_with fail
        rw [rounds_succ]
        go_wp2
        go_round
        case rel => exact ⟨k + 4, by omega, by go_num, unhide HF⟩
        case measure => simp [RowKit.intOf]; omega
      by_cases cF : 241 ≤ (s[k]).toNat ∧ (s[k]).toNat ≤ 243
      · have e1 : firstT (byt s k) % 8 = 4 ∧ accLo (firstT (byt s k) / 16) = 128 ∧ accHi (firstT (byt s k) / 16) = 191 := by
          rw [hb]
          simp [firstT, accLo, accHi, show ¬ (s[k]).toNat < 128 by omega, show ¬ (s[k]).toNat < 194 by omega, show ¬ (s[k]).toNat < 224 by omega, show ¬ (s[k]).toNat = 224 by omega, show ¬ (s[k]).toNat < 237 by omega, show ¬ (s[k]).toNat = 237 by omega, show ¬ (s[k]).toNat < 240 by omega, show ¬ (s[k]).toNat = 240 by omega, show (s[k]).toNat < 244 by omega]
        have HV := hide ((unhide HR).trans (valid_lead s k hlt (by omega) 4 128 191 e1.1 e1.2.1 e1.2.2))
        have f1 : (194 : Int) ≤ ((s[k]).toNat : Int) := by omega
        have f2 : ¬ ((s[k]).toNat : Int) ≤ 223 := by omega
        have f3 : (224 : Int) ≤ ((s[k]).toNat : Int) := by omega
        have f4 : ¬ ((s[k]).toNat : Int) ≤ 239 := by omega
        have f5 : (240 : Int) ≤ ((s[k]).toNat : Int) := by omega
        have f6 : ((s[k]).toNat : Int) ≤ 244 := by omega
        have q240 : (((s[k]).toNat : Int) == 240) = false := beq_eq_false_iff_ne.2 (by omega)
        have q244 : (((s[k]).toNat : Int) == 244) = false := beq_eq_false_iff_ne.2 (by omega)
        clear HR e1
        by_cases hlen : s.size - k ≤ 3
        · have hlen' : (s.size : Int) - (k : Int) ≤ 3 := by omega
          have HF : Hid (v = false) := by
            show v = false
            rw [unhide HV, show checkN (s.size - k) (byt s (k + 1)) (byt s (k + 2)) (byt s (k + 3)) 4 128 191 = none from by simp [checkN]; omega]
          clear HV
          go_wp2
          go_ret
          exact ⟨by rw [unhide HF]; rfl, rfl⟩
        have hlen' : ¬ (s.size : Int) - (k : Int) ≤ 3 := by omega
        have hj1 : k + 1 < s.size := by omega
        have hj1' : (k : Int) + 1 < (s.size : Int) := by omega
        have hb1 := byt_eq s (k + 1) hj1
        have hj2 : k + 2 < s.size := by omega
        have hj2' : (k : Int) + 2 < (s.size : Int) := by omega
        have hb2 := byt_eq s (k + 2) hj2
        have hj3 : k + 3 < s.size := by omega
        have hj3' : (k : Int) + 3 < (s.size : Int) := by omega
        have hb3 := byt_eq s (k + 3) hj3
        by_cases hx1 : (s[k + 1]).toNat < 128
        · have gx1 : ((s[k + 1]).toNat : Int) < 128 := by omega
          have HF : Hid (v = false) := by
            show v = false
            rw [unhide HV, show checkN (s.size - k) (byt s (k + 1)) (byt s (k + 2)) (byt s (k + 3)) 4 128 191 = none from by simp [checkN]; omega]
          clear HV
          go_wp2
          go_ret
          exact ⟨by rw [unhide HF]; rfl, rfl⟩
        have gx1 : ¬ ((s[k + 1]).toNat : Int) < 128 := by omega
        by_cases hy1 : 191 < (s[k + 1]).toNat
        · have gy1 : (191 : Int) < ((s[k + 1]).toNat : Int) := by omega
          have HF : Hid (v = false) := by
            show v = false
            rw [unhide HV, show checkN (s.size - k) (byt s (k + 1)) (byt s (k + 2)) (byt s (k + 3)) 4 128 191 = none from by simp [checkN]; omega]
          clear HV
          go_wp2
          go_ret
          exact ⟨by rw [unhide HF]; rfl, rfl⟩
        have gy1 : ¬ (191 : Int) < ((s[k + 1]).toNat : Int) := by omega
        by_cases hx2 : (s[k + 2]).toNat < 128
        · have gx2 : ((s[k + 2]).toNat : Int) < 128 := by omega
          have HF : Hid (v = false) := by
            show v = false
            rw [unhide HV, show checkN (s.size - k) (byt s (k + 1)) (byt s (k + 2)) (byt s (k + 3)) 4 128 191 = none from by simp [checkN]; omega]
          clear HV
          go_wp2_with fail
          refine wp_loop_rounds 4 ?_
          rw [rounds_succ]
          go_wp2
          go_ret
          exact ⟨by rw [unhide HF]; rfl, rfl⟩
        have gx2 : ¬ ((s[k + 2]).toNat : Int) < 128 := by omega
        by_cases hy2 : 191 < (s[k + 2]).toNat
        · have gy2 : (191 : Int) < ((s[k + 2]).toNat : Int) := by omega
          have HF : Hid (v = false) := by
            show v = false
            rw [unhide HV, show checkN (s.size - k) (byt s (k + 1)) (byt s (k + 2)) (byt s (k + 3)) 4 128 191 = none from by simp [checkN]; omega]
          clear HV
          go_wp2_with fail
          refine wp_loop_rounds 4 ?_
          rw [rounds_succ]
          go_wp2
          go_ret
          exact ⟨by rw [unhide HF]; rfl, rfl⟩
        have gy2 : ¬ (191 : Int) < ((s[k + 2]).toNat : Int) := by omega
        by_cases hx3 : (s[k + 3]).toNat < 128
        · have gx3 : ((s[k + 3]).toNat : Int) < 128 := by omega
          have HF : Hid (v = false) := by
            show v = false
            rw [unhide HV, show checkN (s.size - k) (byt s (k + 1)) (byt s (k + 2)) (byt s (k + 3)) 4 128 191 = none from by simp [checkN]; omega]
          clear HV
          go_wp2_with fail
          refine wp_loop_rounds 4 ?_
          rw [rounds_succ]
          go_wp2_with fail
          rw [rounds_succ]
          go_wp2
          go_ret
          exact ⟨by rw [unhide HF]; rfl, rfl⟩
        have gx3 : ¬ ((s[k + 3]).toNat : Int) < 128 := by omega
        by_cases hy3 : 191 < (s[k + 3]).toNat
        · have gy3 : (191 : Int) < ((s[k + 3]).toNat : Int) := by omega
          have HF : Hid (v = false) := by
            show v = false
            rw [unhide HV, show checkN (s.size - k) (byt s (k + 1)) (byt s (k + 2)) (byt s (k + 3)) 4 128 191 = none from by simp [checkN]; omega]
          clear HV
          go_wp2_with fail
          refine wp_loop_rounds 4 ?_
          rw [rounds_succ]
          go_wp2_with fail
          rw [rounds_succ]
          go_wp2
          go_ret
          exact ⟨by rw [unhide HF]; rfl, rfl⟩
        have gy3 : ¬ (191 : Int) < ((s[k + 3]).toNat : Int) := by omega
        have HF : Hid (v = validD (s.data.toList.drop (k + 4))) := by
          show v = _
          rw [unhide HV, show checkN (s.size - k) (byt s (k + 1)) (byt s (k + 2)) (byt s (k + 3)) 4 128 191 = some 4 from by simp [checkN]; omega]
        clear HV
        go_wp2_with fail
        refine wp_loop_rounds 4 ?_
        rw [rounds_succ]
        go_wp2_with fail
        rw [rounds_succ]
        go_wp2_with fail
        rw [rounds_succ]
        go_wp2
        go_round
        case rel => exact ⟨k + 4, by omega, by go_num, unhide HF⟩
        case measure => simp [RowKit.intOf]; omega
      by_cases cG : (s[k]).toNat = 244
      · have e1 : firstT (byt s k) % 8 = 4 ∧ accLo (firstT (byt s k) / 16) = 128 ∧ accHi (firstT (byt s k) / 16) = 143 := by
          rw [hb]
          rw [cG]; decide
        have HV := hide ((unhide HR).trans (valid_lead s k hlt (by omega) 4 128 143 e1.1 e1.2.1 e1.2.2))
        have f1 : (194 : Int) ≤ ((s[k]).toNat : Int) := by omega
        have f2 : ¬ ((s[k]).toNat : Int) ≤ 223 := by omega
        have f3 : (224 : Int) ≤ ((s[k]).toNat : Int) := by omega
        have f4 : ¬ ((s[k]).toNat : Int) ≤ 239 := by omega
        have f5 : (240 : Int) ≤ ((s[k]).toNat : Int) := by omega
        have f6 : ((s[k]).toNat : Int) ≤ 244 := by omega
        have q240 : (((s[k]).toNat : Int) == 240) = false := beq_eq_false_iff_ne.2 (by omega)
        have q244 : (((s[k]).toNat : Int) == 244) = true := beq_iff_eq.2 (by omega)
        clear HR e1
        by_cases hlen : s.size - k ≤ 3
        · have hlen' : (s.size : Int) - (k : Int) ≤ 3 := by omega
          have HF : Hid (v = false) := by
            show v = false
            rw [unhide HV, show checkN (s.size - k) (byt s (k + 1)) (byt s (k + 2)) (byt s (k + 3)) 4 128 143 = none from by simp [checkN]; omega]
          clear HV
          go_wp2
          go_ret
          exact ⟨by rw [unhide HF]; rfl, rfl⟩
        have hlen' : ¬ (s.size : Int) - (k : Int) ≤ 3 := by omega
        have hj1 : k + 1 < s.size := by omega
        have hj1' : (k : Int) + 1 < (s.size : Int) := by omega
        have hb1 := byt_eq s (k + 1) hj1
        have hj2 : k + 2 < s.size := by omega
        have hj2' : (k : Int) + 2 < (s.size : Int) := by omega
        have hb2 := byt_eq s (k + 2) hj2
        have hj3 : k + 3 < s.size := by omega
        have hj3' : (k : Int) + 3 < (s.size : Int) := by omega
        have hb3 := byt_eq s (k + 3) hj3
        by_cases hx1 : (s[k + 1]).toNat < 128
        · have gx1 : ((s[k + 1]).toNat : Int) < 128 := by omega
          have HF : Hid (v = false) := by
            show v = false
            rw [unhide HV, show checkN (s.size - k) (byt s (k + 1)) (byt s (k + 2)) (byt s (k + 3)) 4 128 143 = none from by simp [checkN]; omega]
          clear HV
          go_wp2
          go_ret
          exact ⟨by rw [unhide HF]; rfl, rfl⟩
        have gx1 : ¬ ((s[k + 1]).toNat : Int) < 128 := by omega
        by_cases hy1 : 143 < (s[k + 1]).toNat
        · have gy1 : (143 : Int) < ((s[k + 1]).toNat : Int) := by omega
          have HF : Hid (v = false) := by
            show v = false
            rw [unhide HV, show checkN (s.size - k) (byt s (k + 1)) (byt s (k + 2)) (byt s (k + 3)) 4 128 143 = none from by simp [checkN]; omega]
          clear HV
          go_wp2
          go_ret
          exact ⟨by rw [unhide HF]; rfl, rfl⟩
        have gy1 : ¬ (143 : Int) < ((s[k + 1]).toNat : Int) := by omega
        by_cases hx2 : (s[k + 2]).toNat < 128
        · have gx2 : ((s[k + 2]).toNat : Int) < 128 := by omega
          have HF : Hid (v = false) := by
            show v = false
            rw [unhide HV, show checkN (s.size - k) (byt s (k + 1)) (byt s (k + 2)) (byt s (k + 3)) 4 128 143 = none from by simp [checkN]; omega]
          clear HV
          go_wp2_with fail
          refine wp_loop_rounds 4 ?_
          rw [rounds_succ]
          go_wp2
          go_ret
          exact ⟨by rw [unhide HF]; rfl, rfl⟩
        have gx2 : ¬ ((s[k + 2]).toNat : Int) < 128 := by omega
        by_cases hy2 : 191 < (s[k + 2]).toNat
        · have gy2 : (191 : Int) < ((s[k + 2]).toNat : Int) := by omega
          have HF : Hid (v = false) := by
            show v = false
            rw [unhide HV, show checkN (s.size - k) (byt s (k + 1)) (byt s (k + 2)) (byt s (k + 3)) 4 128 143 = none from by simp [checkN]; omega]
          clear HV
          go_wp2_with fail
          refine wp_loop_rounds 4 ?_
          rw [rounds_succ]
          go_wp2
          go_ret
          exact ⟨by rw [unhide HF]; rfl, rfl⟩
        have gy2 : ¬ (191 : Int) < ((s[k + 2]).toNat : Int) := by omega
        by_cases hx3 : (s[k + 3]).toNat < 128
        · have gx3 : ((s[k + 3]).toNat : Int) < 128 := by omega
          have HF : Hid (v = false) := by
            show v = false
            rw [unhide HV, show checkN (s.size - k) (byt s (k + 1)) (byt s (k + 2)) (byt s (k + 3)) 4 128 143 = none from by simp [checkN]; omega]
          clear HV
          go_wp2_with fail
          refine wp_loop_rounds 4 ?_
          rw [rounds_succ]
          go_wp2_with fail
          rw [rounds_succ]
          go_wp2
          go_ret
          exact ⟨by rw [unhide HF]; rfl, rfl⟩
        have gx3 : ¬ ((s[k + 3]).toNat : Int) < 128 := by omega
        by_cases hy3 : 191 < (s[k + 3]).toNat
        · have gy3 : (191 : Int) < ((s[k + 3]).toNat : Int) := by omega
          have HF : Hid (v = false) := by
            show v = false
            rw [unhide HV, show checkN (s.size - k) (byt s (k + 1)) (byt s (k + 2)) (byt s (k + 3)) 4 128 143 = none from by simp [checkN]; omega]
          clear HV
          go_wp2_with fail
          refine wp_loop_rounds 4 ?_
          rw [rounds_succ]
          go_wp2_with fail
          rw [rounds_succ]
          go_wp2
          go_ret
          exact ⟨by rw [unhide HF]; rfl, rfl⟩
        have gy3 : ¬ (191 : Int) < ((s[k + 3]).toNat : Int) := by omega
        have HF : Hid (v = validD (s.data.toList.drop (k + 4))) := by
          show v = _
          rw [unhide HV, show checkN (s.size - k) (byt s (k + 1)) (byt s (k + 2)) (byt s (k + 3)) 4 128 143 = some 4 from by simp [checkN]; omega]
        clear HV
        go_wp2_with fail
        refine wp_loop_rounds 4 ?_
        rw [rounds_succ]
        go_wp2_with fail
        rw [rounds_succ]
        go_wp2_with fail
        rw [rounds_succ]
        go_wp2
        go_round
        case rel => exact ⟨k + 4, by omega, by go_num, unhide HF⟩
        case measure => simp [RowKit.intOf]; omega
      have hbad : (s[k]).toNat < 194 ∨ 244 < (s[k]).toNat := by omega
      have HF : Hid (v = false) := (unhide HR).trans (valid_bad s k hlt (by omega))
      clear HR cA cB cC cD cE cF cG
      rcases hbad with x | x
      · have f1 : ¬ (194 : Int) ≤ ((s[k]).toNat : Int) := by omega
        have f2 : ¬ (224 : Int) ≤ ((s[k]).toNat : Int) := by omega
        have f3 : ¬ (240 : Int) ≤ ((s[k]).toNat : Int) := by omega
        go_wp2
        go_ret
        exact ⟨by rw [unhide HF]; rfl, rfl⟩
      · have f1 : (194 : Int) ≤ ((s[k]).toNat : Int) := by omega
        have f2 : ¬ ((s[k]).toNat : Int) ≤ 223 := by omega
        have f3 : (224 : Int) ≤ ((s[k]).toNat : Int) := by omega
        have f4 : ¬ ((s[k]).toNat : Int) ≤ 239 := by omega
        have f5 : (240 : Int) ≤ ((s[k]).toNat : Int) := by omega
        have f6 : ¬ ((s[k]).toNat : Int) ≤ 244 := by omega
        go_wp2
        go_ret
        exact ⟨by rw [unhide HF]; rfl, rfl⟩
    · have hlt' : ¬ (k : Int) < (s.size : Int) := by omega
      have HF : Hid (v = true) := by
        show v = true
        rw [unhide HR, List.drop_eq_nil_of_le (show s.data.toList.length ≤ k from Nat.le_of_not_lt hlt)]
        rfl
      go_wp2
      go_ret
      exact ⟨by rw [unhide HF]; rfl, rfl⟩
end Go.Proofs.Qxb6002438aDoor
