/-
  The lines of a text, and the first that is not UTF-8: zzFirstBadLine.
-/
import Derived.Test.Qxb6002438aDoorUtf
import Derived.Lib.SplitLaws
namespace Go.Proofs.Qxb6002438aDoor
open Go.RowKit Go.Lib

def nlB : ByteArray := ⟨#[10]⟩
/-- The lines of s. -/
def pcs (s : ByteArray) : List ByteArray := splitB nlB 0 (countB s nlB) s
/-- The number of the first line that is not UTF-8, counted from ln on; 0: none. -/
def bad : Nat → List ByteArray → Nat
  | _, [] => 0
  | ln, p :: ps => if validD p.data.toList = true then bad (ln + 1) ps else ln
def badLine (s : ByteArray) : Nat := bad 1 (pcs s)

theorem nlB_size : nlB.size = 1 := rfl
theorem pcs_miss (s : ByteArray) (h : indexB s nlB = -1) : pcs s = [s] := splitB_miss _ _ _ _ h
theorem pcs_hit (s : ByteArray) (i : Nat) (h : indexB s nlB = i) : pcs s = s.extract 0 i :: pcs (s.extract (i + 1) s.size) := by
  unfold pcs
  rw [countB_hit s nlB i (by rw [nlB_size]; exact Nat.le_refl _) h, Nat.add_comm 1, splitB_hit nlB 0 _ s i h, nlB_size, Nat.add_zero]
theorem occ_one (l : List UInt8) (i : Nat) : occAt l [10] i = true ↔ l[i]? = some 10 := by
  unfold occAt
  have h : (l.drop i)[0]? = l[i]? := by rw [List.getElem?_drop, Nat.add_zero]
  cases hd : l.drop i with
  | nil =>
    rw [hd] at h
    rw [← h]
    simp [List.isPrefixOf]
  | cons b t =>
    rw [hd] at h
    rw [← h]
    simp only [List.isPrefixOf, List.getElem?_cons_zero, Bool.and_true, beq_iff_eq, Option.some.injEq]
    exact eq_comm
theorem tail_get (s : ByteArray) (a j : Nat) : (s.extract a s.size).data.toList[j]? = s.data.toList[a + j]? := by
  rw [extract_data, List.take_of_length_le (by rw [List.length_drop, ← size_eq]; exact Nat.le_refl _), List.getElem?_drop]
theorem get_byt (s : ByteArray) (k : Nat) (h : k < s.size) : s.data.toList[k]? = some 10 ↔ byt s k = 10 := by
  have h' : k < s.data.toList.length := by rw [← size_eq]; exact h
  rw [List.getElem?_eq_getElem h', Option.some.injEq]
  have e : s.data.toList[k] = s.get! k := by
    rw [get!_eq s k h]
    rfl
  rw [e]
  unfold byt
  constructor
  · intro x; rw [x]; rfl
  · intro x; exact UInt8.toNat_inj.1 (by rw [x]; rfl)
theorem ext_ext1 (s : ByteArray) (a b : Nat) (h1 : a ≤ b) (h2 : b ≤ s.size) : (s.extract a s.size).extract 0 (b - a) = s.extract a b := by
  rw [extract_eq, extract_eq s a b, extract_data]
  congr 2
  rw [List.drop_zero, List.take_take, Nat.min_eq_left (by omega)]
  rfl
theorem ext_ext2 (s : ByteArray) (a b : Nat) (h1 : a ≤ b) (h2 : b < s.size) : (s.extract a s.size).extract (b - a + 1) (s.extract a s.size).size = s.extract (b + 1) s.size := by
  have hz : (s.extract a s.size).size = s.size - a := by rw [ByteArray.size_extract]; omega
  rw [hz, extract_eq, extract_eq s (b + 1), extract_data, List.take_of_length_le (l := s.data.toList.drop a) (by rw [List.length_drop, ← size_eq]; exact Nat.le_refl _), List.drop_drop, show a + (b - a + 1) = b + 1 by omega, show s.size - a - (b - a + 1) = s.size - (b + 1) by omega]
/-- The line that starts at a ends at b, and more lines follow. -/
theorem pcs_line (s : ByteArray) (a b : Nat) (h1 : a ≤ b) (h2 : b < s.size) (h3 : ∀ k, a ≤ k → k < b → ¬ byt s k = 10) (h4 : byt s b = 10) : pcs (s.extract a s.size) = s.extract a b :: pcs (s.extract (b + 1) s.size) := by
  have hi : indexB (s.extract a s.size) nlB = ((b - a : Nat) : Int) := by
    refine index_first (s := (s.extract a s.size).data.toList) (sub := nlB.data.toList) ?_ ?_ ?_
    · rw [← size_eq, ByteArray.size_extract]; omega
    · refine (occ_one _ _).2 ?_
      rw [tail_get, show a + (b - a) = b by omega]
      exact (get_byt s b h2).2 h4
    · intro j hj
      refine Bool.eq_false_iff.2 fun hc => ?_
      have := (occ_one _ _).1 hc
      rw [tail_get] at this
      exact h3 (a + j) (by omega) (by omega) ((get_byt s (a + j) (by omega)).1 this)
  rw [pcs_hit _ _ hi, ext_ext1 s a b h1 (by omega), ext_ext2 s a b h1 h2]
/-- The last line. -/
theorem pcs_last (s : ByteArray) (a : Nat) (h3 : ∀ k, a ≤ k → k < s.size → ¬ byt s k = 10) : pcs (s.extract a s.size) = [s.extract a s.size] := by
  refine pcs_miss _ (index_none fun j hj => Bool.eq_false_iff.2 fun hc => ?_)
  have := (occ_one _ _).1 hc
  rw [tail_get] at this
  by_cases hlt : a + j < s.size
  · exact h3 (a + j) (by omega) hlt ((get_byt s (a + j) hlt).1 this)
  · rw [List.getElem?_eq_none (by rw [← size_eq]; omega)] at this
    cases this
theorem bad_le : ∀ (ps : List ByteArray) (ln : Nat), bad ln ps ≤ ln + ps.length
  | [], _ => Nat.zero_le _
  | p :: ps, ln => by
    rw [bad]
    split
    · have := bad_le ps (ln + 1)
      simp only [List.length_cons]
      omega
    · omega
theorem badLine_le (s : ByteArray) : badLine s ≤ s.size + 2 := by
  have h := bad_le (pcs s) 1
  have h2 : (pcs s).length ≤ countB s nlB + 1 := splitB_length_le _ _ _ _
  have h3 := countB_le nlB (by rw [nlB_size]; exact Nat.le_refl _) s.size s (Nat.le_refl _)
  unfold badLine
  omega
theorem ext_all (s : ByteArray) : s.extract 0 s.size = s := by
  rw [extract_eq, List.drop_zero, Nat.sub_zero, List.take_of_length_le (by rw [← size_eq]; exact Nat.le_refl _)]

set_option maxRecDepth 100000 in
set_option maxHeartbeats 2000000 in
theorem firstBad_any (s : ByteArray) (w : World) (hs : s.size ≤ 1048576) : Calls Tryd.prog 18 #[.string s] w fun e w' => e = .returned (.int .i64 (badLine s : Nat)) ∧ w' = w := by
  generalize hv : badLine s = v
  have Hv := hide hv
  clear hv
  go_enter Tryd.func18, Tryd.ntmps18
  go_wp2_with fail
  go_loop [3, 4, 5] (fun lv sv _ => ∃ ln st : Nat, st ≤ s.size + 1 ∧ ln ≤ st + 1 ∧ lv = .int .i64 ln ∧ sv = .int .i64 st ∧ (st ≤ s.size → v = bad ln (pcs (s.extract st s.size))) ∧ (st = s.size + 1 → v = 0)) (fun _ sv _ => s.size + 1 - (intOf sv).toNat)
  case atStart => exact ⟨1, 0, by omega, by omega, rfl, rfl, fun _ => by rw [ext_all, ← unhide Hv]; rfl, fun h => by omega⟩
  case round =>
    obtain ⟨ln, st, hst, hln, rfl, rfl, hgo, hend⟩ := hrel
    by_cases hlt : st ≤ s.size
    · have hlt' : (st : Int) ≤ (s.size : Int) := by omega
      have HG := hide (hgo hlt)
      clear hgo hend
      go_wp2_with fail
      go_loop [5] (fun j => ∃ k : Nat, st ≤ k ∧ k ≤ s.size ∧ j = .int .i64 k ∧ ∀ h, st ≤ h → h < k → ¬ byt s h = 10) (fun j => s.size - (intOf j).toNat)
      case atStart => exact ⟨st, Nat.le_refl _, hlt, rfl, fun h h1 h2 => by omega⟩
      case round =>
        obtain ⟨k, hk1, hk2, rfl, hall⟩ := hrel
        have HA := hide hall
        clear hall
        have hk1' : (st : Int) ≤ (k : Int) := by omega
        have hk2' : (k : Int) ≤ (s.size : Int) := by omega
        by_cases hkl : k < s.size
        · have hkl' : (k : Int) < (s.size : Int) := by omega
          have hb := byt_eq s k hkl
          by_cases h10 : (s[k]).toNat = 10
          · have e1 : (((s[k]).toNat : Int) != 10) = false := by simp; omega
            have HP := hide (pcs_line s st k hk1 hkl (unhide HA) (by rw [hb]; exact h10))
            clear h10 hb
            go_wp2_with fail
            refine (valid_any (s.extract st k) w (by rw [ByteArray.size_extract]; omega)).mono ?_
            rintro e w' ⟨rfl, rfl⟩
            generalize hvd : validD (s.extract st k).data.toList = r
            have HD := hide hvd
            clear hvd
            cases r with
            | true =>
              have HS : Hid (v = bad (ln + 1) (pcs (s.extract (k + 1) s.size))) := by
                show v = _
                rw [unhide HG, unhide HP, bad, if_pos (unhide HD)]
              go_wp2
              go_round
              case rel => exact ⟨ln + 1, k + 1, by omega, by omega, by go_num, by go_num, fun _ => unhide HS, fun h => by omega⟩
              case measure => simp [intOf]; omega
            | false =>
              have HS : Hid (v = ln) := by
                show v = _
                rw [unhide HG, unhide HP, bad, if_neg (by rw [unhide HD]; decide)]
              go_wp2
              go_ret
              exact ⟨by rw [unhide HS]; rfl, rfl⟩
          · have e1 : (((s[k]).toNat : Int) != 10) = true := by simp; omega
            have HN : Hid (¬ byt s k = 10) := by show ¬ _; rw [hb]; exact h10
            clear h10 hb
            go_wp2
            go_round
            case rel =>
              refine ⟨k + 1, by omega, by omega, by go_num, fun h h1 h2 => ?_⟩
              by_cases e : h = k
              · subst e; exact unhide HN
              · exact unhide HA h h1 (by omega)
            case measure => simp [intOf]; omega
        · have hkl' : ¬ (k : Int) < (s.size : Int) := by omega
          obtain rfl : k = s.size := by omega
          have HP := hide (pcs_last s st (unhide HA))
          go_wp2_with fail
          refine (valid_any (s.extract st s.size) w (by rw [ByteArray.size_extract]; omega)).mono ?_
          rintro e w' ⟨rfl, rfl⟩
          generalize hvd : validD (s.extract st s.size).data.toList = r
          have HD := hide hvd
          clear hvd
          cases r with
          | true =>
            have HS : Hid (v = 0) := by
              show v = _
              rw [unhide HG, unhide HP, bad, if_pos (unhide HD)]
              rfl
            go_wp2
            go_round
            case rel => exact ⟨ln + 1, s.size + 1, by omega, by omega, by go_num, by go_num, fun h => by omega, fun _ => unhide HS⟩
            case measure => simp [intOf]; omega
          | false =>
            have HS : Hid (v = ln) := by
              show v = _
              rw [unhide HG, unhide HP, bad, if_neg (by rw [unhide HD]; decide)]
            go_wp2
            go_ret
            exact ⟨by rw [unhide HS]; rfl, rfl⟩
    · have hlt' : ¬ (st : Int) ≤ (s.size : Int) := by omega
      have HE := hide (hend (by omega))
      clear hgo hend
      go_wp2
      go_ret
      exact ⟨by rw [unhide HE]; rfl, rfl⟩
end Go.Proofs.Qxb6002438aDoor
