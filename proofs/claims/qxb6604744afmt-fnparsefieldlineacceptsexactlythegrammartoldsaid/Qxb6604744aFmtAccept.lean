/-
  The law FnParseFieldLineAcceptsExactlyTheGrammar: it returns true.
-/
import Derived.Test.Qxb6604744aFmtReass
namespace Go.Proofs.Qxb6604744aFmt
open Go.RowKit Go.Lib Go.Extern.Stop Go.Stop Go.Extern

def TruePost (w : World) (e : Ending) (w' : World) : Prop := e = .returned (.bool true) ∧ Below w.heap.size w w'
/-- Yes or no. -/
def Some2 (w : World) (e : Ending) (w' : World) : Prop := (∃ r : Bool, e = .returned (.bool r)) ∧ w' = w

set_option maxHeartbeats 1000000 in
theorem zzBytes5_any (s : ByteArray) (w : World) (hs : s.size ≤ 9223372036854775807) : Calls Tryf.prog 5 #[.string s] w fun e w' => Some2 w e w' := by
  go_enter Tryf.func5, Tryf.ntmps5
  by_cases h1 : (1048576 : Int) < (s.size : Int)
  · go_wp2
    go_ret
    exact ⟨⟨_, rfl⟩, rfl⟩
  · go_wp2
    go_ret
    exact ⟨⟨_, rfl⟩, rfl⟩

theorem index_first {l : List UInt8} {k : Nat} (h : l[k]? = some 58) (hb : ∀ j, j < k → l[j]? ≠ some 58) : indexByte l 58 = (k : Int) := by
  have h1 := indexByte_ge l 58
  by_cases hx : indexByte l 58 = -1
  · exact absurd h (indexByte_none hx k)
  · obtain ⟨o, ho⟩ : ∃ o : Nat, indexByte l 58 = (o : Int) := ⟨(indexByte l 58).toNat, by omega⟩
    obtain ⟨a, b⟩ := indexByte_some ho
    rcases Nat.lt_trichotomy o k with c | c | c
    · exact absurd a (hb o c)
    · rw [ho, c]
    · exact absurd h (b k c)

/-- The one split that could pass: what lies between the blanks is what Trim leaves. -/
theorem split_trim (s : ByteArray) (k lo hi : Nat) (h0 : k + 1 ≤ lo) (h1 : lo ≤ hi) (h2 : hi ≤ s.size) (a1 : ∀ j, ∀ h : j < s.size, k + 1 ≤ j → j < lo → wsp (s[j]).toNat) (a2 : ∀ j, ∀ h : j < s.size, hi ≤ j → wsp (s[j]).toNat)
    (a3 : ∀ h : lo < s.size, ¬ wsp (s[lo]).toNat) (a4 : ∀ h : lo < hi, ¬ wsp (s[hi - 1]'(by omega)).toNat) : (s.extract lo hi).data.toList = trimS (s.data.toList.drop (k + 1)) cuts := by
  have key : ∀ (j : Nat) b, (s.data.toList.drop (k + 1))[j]? = some b → ∃ h : k + 1 + j < s.size, b = s[k + 1 + j] := by
    intro j b hb
    rw [List.getElem?_drop] at hb
    have hl : k + 1 + j < s.size := (List.getElem?_eq_some_iff.1 hb).1
    rw [list_get s _ hl] at hb
    cases hb
    exact ⟨hl, rfl⟩
  have hsz := size_eq s
  rw [trim_mid (s.data.toList.drop (k + 1)) (lo - (k + 1)) (hi - (k + 1)) (by omega) (by rw [List.length_drop]; omega)]
  · rw [extract_eq]
    show List.take (hi - lo) (List.drop lo s.data.toList) = _
    rw [List.drop_take, List.drop_drop]
    congr 1
    · omega
    · congr 1
      omega
  · intro j b hj hb
    obtain ⟨hl, rfl⟩ := key j b hb
    exact (cuts_iff _).2 (a1 _ hl (by omega) (by omega))
  · intro j b hj hb
    obtain ⟨hl, rfl⟩ := key j b hb
    exact (cuts_iff _).2 (a2 _ hl (by omega))
  · intro hlt
    constructor
    · intro b hb
      obtain ⟨hl, rfl⟩ := key _ b hb
      refine (cuts_not _).2 ?_
      have e : k + 1 + (lo - (k + 1)) = lo := by omega
      simp only [e]
      exact a3 (by omega)
    · intro b hb
      obtain ⟨hl, rfl⟩ := key _ b hb
      refine (cuts_not _).2 ?_
      have e : k + 1 + (hi - (k + 1) - 1) = hi - 1 := by omega
      simp only [e]
      exact a4 (by omega)

theorem gram_no {n v : ByteArray} (w : World) (hn : n.size ≤ 9223372036854775807) (hv : v.size ≤ 9223372036854775807) (h : ¬ Chk n.data.toList v.data.toList) :
    Calls Tryf.prog 7 #[.string n, .string v] w fun e w' => e = .returned (.bool false) ∧ w' = w :=
  (gram_any n v w hn hv).mono fun _ _ ⟨⟨r, he, hr⟩, hw⟩ => by
    cases r with
    | false => exact ⟨he, hw⟩
    | true => exact absurd (hr.1 rfl) h

set_option maxRecDepth 100000 in
set_option maxHeartbeats 2000000 in
theorem accept_any (F : Interp) (s : ByteArray) (w : World) (hF : F.answers w.tape) (hs : s.size ≤ 9223372036854775807) :
    Calls Tryf.prog 3 #[.string s] w fun e w' => TruePost w e w' := by
  have HF := hide hF
  clear hF
  go_enter Tryf.func3, Tryf.ntmps3
  go_wp2_with fail
  refine (zzBytes5_any s w hs).mono ?_
  rintro e w1 ⟨⟨r, rfl⟩, rfl⟩
  cases r with
  | false =>
    go_wp2
    go_ret
    exact ⟨rfl, Below.refl _ _⟩
  | true =>
    by_cases h1 : (262144 : Int) < (s.size : Int)
    · go_wp2
      go_ret
      exact ⟨rfl, Below.refl _ _⟩
    · have hsz : s.size ≤ 262144 := by omega
      go_wp2_with fail
      refine (zzparse_any F s w1 (unhide HF) hs).mono ?_
      rintro e w2 ⟨(⟨k, hk, hc, rfl⟩ | ⟨hno, a, rfl⟩), hb⟩
      · have HB := hide hb
        have HK := hide hk
        have HC := hide hc
        have HF2 : Hid (F.answers w2.tape) := by show F.answers w2.tape; rw [hb.tape]; exact unhide HF
        have hn : (str (s.data.toList.take k)).size ≤ 9223372036854775807 := by rw [str_size, List.length_take, ← size_eq]; omega
        have hv : (str (trimS (s.data.toList.drop (k + 1)) cuts)).size ≤ 9223372036854775807 := by have := trim_le (s.data.toList.drop (k + 1)); rw [List.length_drop, ← size_eq] at this; rw [str_size]; omega
        clear hb hk hc
        go_wp2_with fail
        refine (gram_any _ _ _ hn hv).mono ?_
        rintro e w3 ⟨⟨r, rfl, hr⟩, rfl⟩
        obtain rfl : r = true := hr.2 (unhide HC)
        clear hr
        go_wp2_with fail
        refine (reass_any s k _ hsz (unhide HK)).mono ?_
        rintro e w4 ⟨rfl, rfl⟩
        go_wp2_with fail
        refine (check_any F _ _ _ ?_ hn hv).mono ?_
        · exact unhide HF2
        rintro e w5 ⟨(⟨_, rfl⟩ | ⟨hc, _⟩), hb5⟩
        · have HB5 := hide (((unhide HB).alloc (unhide HB).size _).trans (hb5.mono (by have := (unhide HB).size; simp; omega)))
          clear hb5
          go_wp2
          go_ret
          exact ⟨rfl, unhide HB5⟩
        · exact absurd (unhide HC) hc
      · have HB := hide (hb.alloc hb.size (.cells #[.string ⟨#[]⟩, .string ⟨#[]⟩] 24))
        have HN := hide hno
        clear hb hno
        go_wp2_with fail
        generalize w2.alloc (.cells #[.string ⟨#[]⟩, .string ⟨#[]⟩] 24) = W at HB ⊢
        go_loop [5, 6] (fun c i => ∃ k : Nat, k ≤ s.size ∧ i = .int .i64 k ∧ c = .int .i64 (-1) ∧ ∀ j, ∀ h : j < s.size, j < k → (s[j]).toNat ≠ 58) (fun _ i => s.size - (RowKit.intOf i).toNat)
        case atStart => exact ⟨0, Nat.zero_le _, rfl, rfl, fun j h hj => by omega⟩
        case round =>
          obtain ⟨k, hk, rfl, rfl, hall⟩ := hrel
          have HA := hide hall
          clear hall
          by_cases hlt : k < s.size
          · have hlt' : (k : Int) < (s.size : Int) := by omega
            by_cases h58 : (s[k]).toNat = 58
            · have HK : Hid (indexByte s.data.toList 58 = (k : Int)) := by
                refine index_first ?_ (fun j hj h => ?_)
                · rw [list_get s k hlt]
                  exact congrArg some (UInt8.toNat_inj.1 h58)
                · rw [list_get s j (by omega)] at h
                  exact (unhide HA) j (by omega) hj (by rw [Option.some.inj h]; rfl)
              have e58 : (((s[k]).toNat : Int) == 58) = true := by rw [h58]; rfl
              have e59 : ((58 : Int) == 58) = true := rfl
              have hneg : ¬ (k : Int) < 0 := by omega
              clear HA
              go_wp2_with fail
              go_loop [7] (fun i => ∃ L : Nat, k + 1 ≤ L ∧ L ≤ s.size ∧ i = .int .i64 L ∧ ∀ j, ∀ h : j < s.size, k + 1 ≤ j → j < L → wsp (s[j]).toNat) (fun i => s.size - (RowKit.intOf i).toNat)
              case atStart => exact ⟨k + 1, Nat.le_refl _, by omega, by go_num, fun j h h1 h2 => by omega⟩
              case round =>
                obtain ⟨L, hL1, hL2, rfl, a1⟩ := hrel
                have A1 := hide a1
                clear a1
                by_cases hlt : L < s.size
                · have hlt' : (L : Int) < (s.size : Int) := by omega
                  go_wp2_with fail
                  refine (isWS_any (s[L]).toNat (UInt8.toNat_lt _) _).mono ?_
                  rintro e w' ⟨⟨r, rfl, hr⟩, rfl⟩
                  have HR := hide hr
                  clear hr
                  cases r with
                  | true =>
                    go_wp2
                    go_round
                    case rel =>
                      refine ⟨L + 1, by omega, by omega, by go_num, fun j h h1 h2 => ?_⟩
                      by_cases e : j = L
                      · subst e; exact (unhide HR).1 (by trivial)
                      · exact unhide A1 j h h1 (by omega)
                    case measure => simp [RowKit.intOf]; omega
                  | false =>
                    have A3 : Hid (∀ h : L < s.size, ¬ wsp (s[L]).toNat) := fun _ h => (by have := (unhide HR).2 h; cases this)
                    clear HR
                    go_wp2_with fail
                    go_loop [8] (fun i => ∃ H : Nat, L ≤ H ∧ H ≤ s.size ∧ i = .int .i64 H ∧ ∀ j, ∀ h : j < s.size, H ≤ j → wsp (s[j]).toNat) (fun i => (RowKit.intOf i).toNat)
                    case atStart => exact ⟨s.size, by omega, Nat.le_refl _, rfl, fun j h hj => by omega⟩
                    case round =>
                      obtain ⟨H, hH1, hH2, rfl, a2⟩ := hrel
                      have A2 := hide a2
                      clear a2
                      by_cases hgt : L < H
                      · have hgt' : (L : Int) < (H : Int) := by omega
                        obtain ⟨M, hM⟩ : ∃ M, H - 1 = M := ⟨_, rfl⟩
                        have hMlt : M < s.size := by omega
                        have hM' : (M : Int) < (s.size : Int) := by omega
                        have wM : (H : Int) - 1 = (M : Int) := by omega
                        go_wp2_with fail
                        refine (isWS_any (s[M]).toNat (UInt8.toNat_lt _) _).mono ?_
                        rintro e w' ⟨⟨r, rfl, hr⟩, rfl⟩
                        have HR := hide hr
                        clear hr
                        cases r with
                        | true =>
                          go_wp2
                          go_round
                          case rel =>
                            refine ⟨M, by omega, by omega, rfl, fun j h hj => ?_⟩
                            by_cases e : j = M
                            · subst e; exact (unhide HR).1 (by trivial)
                            · exact unhide A2 j h (by omega)
                          case measure => simp [RowKit.intOf]; omega
                        | false =>
                          have A4 : Hid (¬ wsp (s[M]).toNat) := fun h => (by have := (unhide HR).2 h; cases this)
                          clear HR
                          have hR : Hid ((s.extract L H).data.toList = trimS (s.data.toList.drop (k + 1)) cuts) := split_trim s k L H (by omega) (by omega) (by omega) (unhide A1) (unhide A2) (unhide A3) (fun _ => by subst hM; exact unhide A4)
                          have hE : (s.extract L H).size ≤ 9223372036854775807 := by rw [size_eq, unhide hR]; have := trim_le (s.data.toList.drop (k + 1)); rw [List.length_drop, ← size_eq] at this; omega
                          have hX : (s.extract 0 k).size ≤ 9223372036854775807 := by rw [ext_take, str_size, List.length_take, ← size_eq]; omega
                          have HG : Hid (¬ Chk (s.extract 0 k).data.toList (s.extract L H).data.toList) := by
                            show ¬ _
                            rw [unhide hR, ext_take, str_toList]
                            exact (unhide HN) k (unhide HK)
                          have z1 : (L : Int) ≤ (H : Int) := by omega
                          have z2 : (H : Int) ≤ (s.size : Int) := by omega
                          have z3 : (k : Int) ≤ (s.size : Int) := by omega
                          have z4 : L ≤ H := by omega
                          have z5 : H ≤ s.size := by omega
                          have z6 : k ≤ s.size := by omega
                          go_wp2_with fail
                          go_quiet ((go_at_call 7; exact Calls.quiet_of_same (gram_no _ hX hE (unhide HG))))
                          go_wp2
                          go_ret
                          exact ⟨rfl, below_drewN (unhide HB) _⟩
                      · have hgt' : ¬ (L : Int) < (H : Int) := by omega
                        have hR : Hid ((s.extract L H).data.toList = trimS (s.data.toList.drop (k + 1)) cuts) := split_trim s k L H (by omega) (by omega) (by omega) (unhide A1) (unhide A2) (unhide A3) (fun h => absurd h hgt)
                        have hE : (s.extract L H).size ≤ 9223372036854775807 := by rw [size_eq, unhide hR]; have := trim_le (s.data.toList.drop (k + 1)); rw [List.length_drop, ← size_eq] at this; omega
                        have hX : (s.extract 0 k).size ≤ 9223372036854775807 := by rw [ext_take, str_size, List.length_take, ← size_eq]; omega
                        have HG : Hid (¬ Chk (s.extract 0 k).data.toList (s.extract L H).data.toList) := by
                          show ¬ _
                          rw [unhide hR, ext_take, str_toList]
                          exact (unhide HN) k (unhide HK)
                        have z1 : (L : Int) ≤ (H : Int) := by omega
                        have z2 : (H : Int) ≤ (s.size : Int) := by omega
                        have z3 : (k : Int) ≤ (s.size : Int) := by omega
                        have z4 : L ≤ H := by omega
                        have z5 : H ≤ s.size := by omega
                        have z6 : k ≤ s.size := by omega
                        go_wp2_with fail
                        go_quiet ((go_at_call 7; exact Calls.quiet_of_same (gram_no _ hX hE (unhide HG))))
                        go_wp2
                        go_ret
                        exact ⟨rfl, below_drewN (unhide HB) _⟩
                · have A3 : Hid (∀ h : L < s.size, ¬ wsp (s[L]).toNat) := fun h => absurd h hlt
                  have hlt' : ¬ (L : Int) < (s.size : Int) := by omega
                  go_wp2_with fail
                  go_loop [8] (fun i => ∃ H : Nat, L ≤ H ∧ H ≤ s.size ∧ i = .int .i64 H ∧ ∀ j, ∀ h : j < s.size, H ≤ j → wsp (s[j]).toNat) (fun i => (RowKit.intOf i).toNat)
                  case atStart => exact ⟨s.size, by omega, Nat.le_refl _, rfl, fun j h hj => by omega⟩
                  case round =>
                    obtain ⟨H, hH1, hH2, rfl, a2⟩ := hrel
                    have A2 := hide a2
                    clear a2
                    by_cases hgt : L < H
                    · have hgt' : (L : Int) < (H : Int) := by omega
                      obtain ⟨M, hM⟩ : ∃ M, H - 1 = M := ⟨_, rfl⟩
                      have hMlt : M < s.size := by omega
                      have hM' : (M : Int) < (s.size : Int) := by omega
                      have wM : (H : Int) - 1 = (M : Int) := by omega
                      go_wp2_with fail
                      refine (isWS_any (s[M]).toNat (UInt8.toNat_lt _) _).mono ?_
                      rintro e w' ⟨⟨r, rfl, hr⟩, rfl⟩
                      have HR := hide hr
                      clear hr
                      cases r with
                      | true =>
                        go_wp2
                        go_round
                        case rel =>
                          refine ⟨M, by omega, by omega, rfl, fun j h hj => ?_⟩
                          by_cases e : j = M
                          · subst e; exact (unhide HR).1 (by trivial)
                          · exact unhide A2 j h (by omega)
                        case measure => simp [RowKit.intOf]; omega
                      | false =>
                        have A4 : Hid (¬ wsp (s[M]).toNat) := fun h => (by have := (unhide HR).2 h; cases this)
                        clear HR
                        have hR : Hid ((s.extract L H).data.toList = trimS (s.data.toList.drop (k + 1)) cuts) := split_trim s k L H (by omega) (by omega) (by omega) (unhide A1) (unhide A2) (unhide A3) (fun _ => by subst hM; exact unhide A4)
                        have hE : (s.extract L H).size ≤ 9223372036854775807 := by rw [size_eq, unhide hR]; have := trim_le (s.data.toList.drop (k + 1)); rw [List.length_drop, ← size_eq] at this; omega
                        have hX : (s.extract 0 k).size ≤ 9223372036854775807 := by rw [ext_take, str_size, List.length_take, ← size_eq]; omega
                        have HG : Hid (¬ Chk (s.extract 0 k).data.toList (s.extract L H).data.toList) := by
                          show ¬ _
                          rw [unhide hR, ext_take, str_toList]
                          exact (unhide HN) k (unhide HK)
                        have z1 : (L : Int) ≤ (H : Int) := by omega
                        have z2 : (H : Int) ≤ (s.size : Int) := by omega
                        have z3 : (k : Int) ≤ (s.size : Int) := by omega
                        have z4 : L ≤ H := by omega
                        have z5 : H ≤ s.size := by omega
                        have z6 : k ≤ s.size := by omega
                        go_wp2_with fail
                        go_quiet ((go_at_call 7; exact Calls.quiet_of_same (gram_no _ hX hE (unhide HG))))
                        go_wp2
                        go_ret
                        exact ⟨rfl, below_drewN (unhide HB) _⟩
                    · have hgt' : ¬ (L : Int) < (H : Int) := by omega
                      have hR : Hid ((s.extract L H).data.toList = trimS (s.data.toList.drop (k + 1)) cuts) := split_trim s k L H (by omega) (by omega) (by omega) (unhide A1) (unhide A2) (unhide A3) (fun h => absurd h hgt)
                      have hE : (s.extract L H).size ≤ 9223372036854775807 := by rw [size_eq, unhide hR]; have := trim_le (s.data.toList.drop (k + 1)); rw [List.length_drop, ← size_eq] at this; omega
                      have hX : (s.extract 0 k).size ≤ 9223372036854775807 := by rw [ext_take, str_size, List.length_take, ← size_eq]; omega
                      have HG : Hid (¬ Chk (s.extract 0 k).data.toList (s.extract L H).data.toList) := by
                        show ¬ _
                        rw [unhide hR, ext_take, str_toList]
                        exact (unhide HN) k (unhide HK)
                      have z1 : (L : Int) ≤ (H : Int) := by omega
                      have z2 : (H : Int) ≤ (s.size : Int) := by omega
                      have z3 : (k : Int) ≤ (s.size : Int) := by omega
                      have z4 : L ≤ H := by omega
                      have z5 : H ≤ s.size := by omega
                      have z6 : k ≤ s.size := by omega
                      go_wp2_with fail
                      go_quiet ((go_at_call 7; exact Calls.quiet_of_same (gram_no _ hX hE (unhide HG))))
                      go_wp2
                      go_ret
                      exact ⟨rfl, below_drewN (unhide HB) _⟩
            · have e58 : (((s[k]).toNat : Int) == 58) = false := beq_eq_false_iff_ne.2 (by omega)
              have HB8 := hide h58
              clear h58
              go_wp2
              go_round
              case rel =>
                refine ⟨k + 1, by omega, by go_num, rfl, fun j h hj => ?_⟩
                by_cases e : j = k
                · subst e; exact unhide HB8
                · exact unhide HA j h (by omega)
              case measure => simp [RowKit.intOf]; omega
          · have hlt' : ¬ (k : Int) < (s.size : Int) := by omega
            go_wp2
            go_ret
            exact ⟨rfl, unhide HB⟩
end Go.Proofs.Qxb6604744aFmt
