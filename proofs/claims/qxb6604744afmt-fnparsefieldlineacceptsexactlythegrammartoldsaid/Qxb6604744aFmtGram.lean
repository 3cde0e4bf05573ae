/-
  The law's own zzGrammatical and zzReassembles.
-/
import Derived.Test.Qxb6604744aFmtParse
namespace Go.Proofs.Qxb6604744aFmt
open Go.RowKit Go.Lib

theorem list_get (s : ByteArray) (k : Nat) (h : k < s.size) : s.data.toList[k]? = some s[k] := by
  have h' : k < s.data.toList.length := h
  rw [List.getElem?_eq_getElem h']
  rfl

/-- What the law asks of the two ends of a value. -/
def Ends (v : ByteArray) : Prop := ∀ h : 0 < v.size, ¬ wsp (v[0]'h).toNat ∧ ¬ wsp (v[v.size - 1]'(by omega)).toNat
theorem ends_iff (v : ByteArray) : Ends v ↔ trimS v.data.toList cuts = v.data.toList := by
  rw [trim_self]
  constructor
  · intro h
    constructor
    · intro b hb
      have hl : 0 < v.size := (List.getElem?_eq_some_iff.1 hb).1
      rw [list_get v 0 hl] at hb
      cases hb
      exact (cuts_not _).2 (h hl).1
    · intro b hb
      have hl : v.size - 1 < v.size := (List.getElem?_eq_some_iff.1 hb).1
      have hb' : v.data.toList[v.size - 1]? = some b := hb
      rw [list_get v (v.size - 1) hl] at hb'
      cases hb'
      exact (cuts_not _).2 (h (by omega)).2
  · rintro ⟨h1, h2⟩ hl
    exact ⟨(cuts_not _).1 (h1 _ (list_get v 0 hl)), (cuts_not _).1 (h2 _ (list_get v (v.size - 1) (by omega)))⟩

theorem gram_iff (n v : ByteArray) : Chk n.data.toList v.data.toList ↔ Tok n ∧ Ends v ∧ ∀ j, j < v.size → ¬ ctl (v.get! j).toNat := by
  unfold Chk
  rw [← tok_iff, ← ends_iff, ← allB_iff (fun x => ¬ ctl x) v]
  exact Iff.rfl

set_option maxRecDepth 100000 in
set_option maxHeartbeats 4000000 in
theorem gram_any (n v : ByteArray) (w : World) (hn : n.size ≤ 9223372036854775807) (hv : v.size ≤ 9223372036854775807) :
    Calls Tryf.prog 7 #[.string n, .string v] w fun e w' => Says (Chk n.data.toList v.data.toList) e ∧ w' = w := by
  rw [gram_iff]
  generalize hP : (Tok n ∧ Ends v ∧ ∀ j, j < v.size → ¬ ctl (v.get! j).toNat) = P
  have HP := hide hP
  clear hP
  by_cases h0 : n.size = 0
  · have e0 : ((n.size : Int) == 0) = true := by rw [h0]; rfl
    go_enter Tryf.func7, Tryf.ntmps7
    go_wp2
    go_ret
    exact ⟨Says.no (by rw [← unhide HP]; exact fun h => h.1.1 h0), rfl⟩
  · have e0 : ((n.size : Int) == 0) = false := beq_eq_false_iff_ne.2 (by omega)
    go_enter Tryf.func7, Tryf.ntmps7
    go_wp2_with fail
    go_loop [5] (fun i => ∃ k : Nat, k ≤ n.size ∧ i = .int .i64 k ∧ ∀ j, j < k → tok (n.get! j).toNat) (fun i => n.size - (RowKit.intOf i).toNat)
    case atStart => exact ⟨0, Nat.zero_le _, rfl, fun j hj => by omega⟩
    case round =>
      obtain ⟨k, hk, rfl, hall⟩ := hrel
      have HA := hide hall
      clear hall
      by_cases hlt : k < n.size
      · have hlt' : (k : Int) < (n.size : Int) := by omega
        go_wp2_with fail
        refine (tchar13_any (n[k]).toNat (UInt8.toNat_lt _) w).mono ?_
        rintro e w' ⟨⟨r, rfl, hr⟩, rfl⟩
        rw [← get!_eq n k hlt] at hr
        have HR := hide hr
        clear hr
        cases r with
        | false =>
          go_wp2
          go_ret
          exact ⟨Says.no (by rw [← unhide HP]; exact fun h => by have := (unhide HR).2 (h.1.2 k hlt); cases this), rfl⟩
        | true =>
          go_wp2
          go_round
          case rel =>
            refine ⟨k + 1, by omega, by go_num, fun j hj => ?_⟩
            by_cases e : j = k
            · subst e; exact (unhide HR).1 (by trivial)
            · exact unhide HA j (by omega)
          case measure => simp [RowKit.intOf]; omega
      · have HTok : Hid (Tok n) := ⟨h0, fun j hj => unhide HA j (by omega)⟩
        have hlt' : ¬ (k : Int) < (n.size : Int) := by omega
        clear HA
        by_cases hv0 : 0 < v.size
        · have hv1 : (0 : Int) < (v.size : Int) := by omega
          obtain ⟨M, hM⟩ : ∃ M, v.size - 1 = M := ⟨_, rfl⟩
          have hMlt : M < v.size := by omega
          have hM' : (M : Int) < (v.size : Int) := by omega
          have wM : (v.size : Int) - 1 = (M : Int) := by omega
          go_wp2_with fail
          refine (isWS_any (v[0]).toNat (UInt8.toNat_lt _) w).mono ?_
          rintro e w' ⟨⟨r, rfl, hr⟩, rfl⟩
          have HR := hide hr
          clear hr
          cases r with
          | true =>
            go_wp2
            go_ret
            exact ⟨Says.no (by rw [← unhide HP]; exact fun h => (h.2.1 hv0).1 ((unhide HR).1 (by trivial))), rfl⟩
          | false =>
            go_wp2_with fail
            refine (isWS_any (v[M]).toNat (UInt8.toNat_lt _) w').mono ?_
            rintro e w3 ⟨⟨r2, rfl, hr2⟩, rfl⟩
            have HR2 := hide hr2
            clear hr2
            cases r2 with
            | true =>
              go_wp2
              go_ret
              exact ⟨Says.no (by rw [← unhide HP]; subst hM; exact fun h => (h.2.1 hv0).2 ((unhide HR2).1 (by trivial))), rfl⟩
            | false =>
              have HE : Hid (Ends v) := by
                intro _
                subst hM
                exact ⟨fun h => (by have := (unhide HR).2 h; cases this), fun h => (by have := (unhide HR2).2 h; cases this)⟩
              clear HR HR2
              go_wp2_with fail
              go_loop [6] (fun i => ∃ k : Nat, k ≤ v.size ∧ i = .int .i64 k ∧ ∀ j, j < k → ¬ ctl (v.get! j).toNat) (fun i => v.size - (RowKit.intOf i).toNat)
              case atStart => exact ⟨0, Nat.zero_le _, rfl, fun j hj => by omega⟩
              case round =>
                clear hlt hlt'
                obtain ⟨k2, hk2, rfl, hall⟩ := hrel
                have HA := hide hall
                clear hall
                by_cases hlt : k2 < v.size
                · have hlt' : (k2 : Int) < (v.size : Int) := by omega
                  go_wp2_with fail
                  refine (isCtl_any (v[k2]).toNat (UInt8.toNat_lt _) w3).mono ?_
                  rintro e w' ⟨⟨r, rfl, hr⟩, rfl⟩
                  rw [← get!_eq v k2 hlt] at hr
                  have HR := hide hr
                  clear hr
                  cases r with
                  | true =>
                    go_wp2
                    go_ret
                    exact ⟨Says.no (by rw [← unhide HP]; exact fun h => h.2.2 k2 hlt ((unhide HR).1 (by trivial))), rfl⟩
                  | false =>
                    go_wp2
                    go_round
                    case rel =>
                      refine ⟨k2 + 1, by omega, by go_num, fun j hj => ?_⟩
                      by_cases e : j = k2
                      · subst e; exact fun h => by have := (unhide HR).2 h; cases this
                      · exact unhide HA j (by omega)
                    case measure => simp [RowKit.intOf]; omega
                · go_wp2
                  go_ret
                  exact ⟨Says.yes (by rw [← unhide HP]; exact ⟨unhide HTok, unhide HE, fun j hj => unhide HA j (by omega)⟩), rfl⟩
        · have HE : Hid (Ends v) := fun h => absurd h hv0
          have hv1 : ¬ (0 : Int) < (v.size : Int) := by omega
          go_wp2_with fail
          go_loop [6] (fun i => ∃ k : Nat, k ≤ v.size ∧ i = .int .i64 k ∧ ∀ j, j < k → ¬ ctl (v.get! j).toNat) (fun i => v.size - (RowKit.intOf i).toNat)
          case atStart => exact ⟨0, Nat.zero_le _, rfl, fun j hj => by omega⟩
          case round =>
            clear hlt hlt'
            obtain ⟨k2, hk2, rfl, hall⟩ := hrel
            have HA := hide hall
            clear hall
            by_cases hlt : k2 < v.size
            · have hlt' : (k2 : Int) < (v.size : Int) := by omega
              go_wp2_with fail
              refine (isCtl_any (v[k2]).toNat (UInt8.toNat_lt _) w).mono ?_
              rintro e w' ⟨⟨r, rfl, hr⟩, rfl⟩
              rw [← get!_eq v k2 hlt] at hr
              have HR := hide hr
              clear hr
              cases r with
              | true =>
                go_wp2
                go_ret
                exact ⟨Says.no (by rw [← unhide HP]; exact fun h => h.2.2 k2 hlt ((unhide HR).1 (by trivial))), rfl⟩
              | false =>
                go_wp2
                go_round
                case rel =>
                  refine ⟨k2 + 1, by omega, by go_num, fun j hj => ?_⟩
                  by_cases e : j = k2
                  · subst e; exact fun h => by have := (unhide HR).2 h; cases this
                  · exact unhide HA j (by omega)
                case measure => simp [RowKit.intOf]; omega
            · go_wp2
              go_ret
              exact ⟨Says.yes (by rw [← unhide HP]; exact ⟨unhide HTok, unhide HE, fun j hj => unhide HA j (by omega)⟩), rfl⟩

theorem trim_split (R : List UInt8) : ∃ lo hi, lo ≤ hi ∧ hi ≤ R.length ∧ trimS R cuts = (R.take hi).drop lo ∧ (∀ (j : Nat) b, j < lo → R[j]? = some b → wsp b.toNat) ∧ (∀ (j : Nat) b, hi ≤ j → R[j]? = some b → wsp b.toNat) ∧ ∀ b, R[lo]? = some b → ¬ wsp b.toNat := by
  obtain ⟨lo, hi, h0, h1, e, a1, a2, a3⟩ := trim_idem R
  by_cases h : lo < hi
  · exact ⟨lo, hi, h0, h1, e, fun j b hj hb => (cuts_iff b).1 (a1 j b hj hb), fun j b hj hb => (cuts_iff b).1 (a2 j b hj hb), fun b hb => (cuts_not b).1 ((a3 h).1 b hb)⟩
  · obtain rfl : lo = hi := by omega
    refine ⟨R.length, R.length, Nat.le_refl _, Nat.le_refl _, ?_, fun j b _ hb => ?_, fun j b hj hb => ?_, fun b hb => ?_⟩
    · rw [e]; simp
    · by_cases hj : j < lo
      · exact (cuts_iff b).1 (a1 j b hj hb)
      · exact (cuts_iff b).1 (a2 j b (by omega) hb)
    · rw [List.getElem?_eq_none hj] at hb; cases hb
    · rw [List.getElem?_eq_none (Nat.le_refl _)] at hb; cases hb
end Go.Proofs.Qxb6604744aFmt
