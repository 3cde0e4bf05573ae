/-
  zzGetAgrees: the answer worked out by hand agrees with what was handed out.
-/
import Derived.Test.Qxb6604757aDoorObj
import Derived.Test.Qxb6604757aDoorDistinct
namespace Go.Proofs.Qxb6604757aDoor
open Go.RowKit Go.Lib

def YesPost (w : World) (e : Ending) (w' : World) : Prop := e = .returned (.bool true) ∧ ∃ z, w' = w.drewN z
/-- The last index as the law keeps it: -1 where there is none. -/
def lastI (o : Option Nat) : Int := match o with | none => -1 | some j => (j : Int)
theorem StrRow.drewN {w : World} {a : Option Addr} {n : Nat} {S : Nat → ByteArray} (h : StrRow w a n S) (z : Nat) : StrRow (w.drewN z) a n S := h
theorem lastOf_step (K : Nat → ByteArray) (p : ByteArray) (k : Nat) : lastOf K p (k + 1) = if K k = p then some k else lastOf K p k := rfl
theorem row_at {w : World} {b off n : Nat} {S : Nat → ByteArray} (h : StrRow w (some ⟨b, off, none⟩) n S) (i : Nat) (hi : i < n) : w.cell? ⟨b, off + i, none⟩ = some (.string (S i)) := by
  obtain ⟨b2, off2, ha, hc⟩ := h i hi
  injection ha with ha
  injection ha with e1 e2
  subst e1 e2
  exact hc

set_option maxRecDepth 100000 in
set_option maxHeartbeats 4000000 in
theorem agrees0 (a1 : Option Addr) (n c1 : Nat) (K : Nat → ByteArray) (a2 : Option Addr) (m c2 : Nat) (A : Nat → Option Addr) (L C : Nat → Nat) (S : Nat → Nat → ByteArray) (a3 : Option Addr) (q c3 : Nat) (P : Nat → ByteArray) (w : World)
    (hK : StrRow w a1 n K) (hN : NestRow w a2 m A L C S) (hP : StrRow w a3 q P) (hKs : Lim n K) (hNs : LimN m L S) (hPs : Lim q P)
    (hq0 : q = 0) :
    Calls Tryd.prog 10 #[.slice a1 n c1, .slice a2 m c2, .slice a3 q c3, .int .i64 1, .int .i64 (many K (min n m) : Nat), .slice none 0 0, .bool true] w fun e w' => YesPost w e w' := by
  have HK := hide hK
  have HN := hide hN
  have HP := hide hP
  have HNs := hide hNs
  have HPs := hide hPs
  have hn := hKs.1
  have hm := hNs.1
  have hq := hPs.1
  clear hK hN hP hKs hNs hPs
  subst hq0
  have HL0 : Hid (many K (min n m) = many K (min n m)) := rfl
  have hml : many K (min n m) ≤ min n m := many_le K _
  obtain ⟨mv, hmv⟩ : ∃ x, many K (min n m) = x := ⟨_, rfl⟩
  rw [hmv] at HL0 hml
  have Hmv := hide hmv
  rw [hmv]
  clear hmv HL0
  have HL0 := Hmv
  go_enter Tryd.func10, Tryd.ntmps10
  by_cases hmn : m < n
  · have hmn' : (m : Int) < (n : Int) := by omega
    have eM : min n m = m := by omega
    rw [eM] at HL0
    go_wp2_with fail
    refine (distinct_any a1 n c1 m K _ hn (by omega) (unhide HK)).mono ?_
    rintro e w2 ⟨rfl, hz⟩
    have HZ := hide hz
    clear hz
    rw [unhide HL0]
    go_wp2
    go_ret
    exact ⟨rfl, unhide HZ⟩
  · have hmn' : ¬ (m : Int) < (n : Int) := by omega
    have eM : min n m = n := by omega
    rw [eM] at HL0
    go_wp2_with fail
    refine (distinct_any a1 n c1 n K _ hn (by omega) (unhide HK)).mono ?_
    rintro e w2 ⟨rfl, hz⟩
    have HZ := hide hz
    clear hz
    rw [unhide HL0]
    go_wp2
    go_ret
    exact ⟨rfl, unhide HZ⟩

set_option maxRecDepth 100000 in
set_option maxHeartbeats 4000000 in
theorem agreesN (a1 : Option Addr) (n c1 : Nat) (K : Nat → ByteArray) (a2 : Option Addr) (m c2 : Nat) (A : Nat → Option Addr) (L C : Nat → Nat) (S : Nat → Nat → ByteArray) (a3 : Option Addr) (q c3 : Nat) (P : Nat → ByteArray) (w : World)
    (hK : StrRow w a1 n K) (hN : NestRow w a2 m A L C S) (hP : StrRow w a3 q P) (hKs : Lim n K) (hNs : LimN m L S) (hPs : Lim q P)
    (hq0 : 0 < q) (hnil : lastOf K (P 0) (min n m) = none ∨ ∃ j, lastOf K (P 0) (min n m) = some j ∧ (3 ≤ q ∨ (2 ≤ q ∧ ¬ (Canon (P 1).data.toList ∧ val 0 (P 1).data.toList < L j)))) :
    Calls Tryd.prog 10 #[.slice a1 n c1, .slice a2 m c2, .slice a3 q c3, .int .i64 0, .int .i64 0, .slice none 0 0, .bool false] w fun e w' => YesPost w e w' := by
  have HK := hide hK
  have HN := hide hN
  have HP := hide hP
  have HNs := hide hNs
  have HPs := hide hPs
  have hn := hKs.1
  have hm := hNs.1
  have hq := hPs.1
  clear hK hN hP hKs hNs hPs
  have HL0 := hide hnil
  clear hnil
  have e0 : ((q : Int) == 0) = false := beq_eq_false_iff_ne.2 (by omega)
  obtain ⟨bp, offp, rfl, hp0⟩ := (unhide HP) 0 (by omega)
  rw [Nat.add_zero] at hp0
  obtain ⟨p0, hpp⟩ : ∃ x, P 0 = x := ⟨_, rfl⟩
  rw [hpp] at hp0
  rw [hpp] at HL0
  clear hpp
  go_enter Tryd.func10, Tryd.ntmps10
  by_cases hmn : m < n
  · have hmn' : (m : Int) < (n : Int) := by omega
    have eM : min n m = m := by omega
    rw [eM] at HL0
    go_wp2_with fail
    go_loopw [16, 17] (fun l i wr => ∃ (k : Nat) (lv : Int), k ≤ m ∧ i = .int .i64 k ∧ l = .int .i64 lv ∧ lv = lastI (lastOf K p0 k) ∧ ∃ z, wr = w.drewN z) (fun _ i _ => m - (RowKit.intOf i).toNat)
    case atStart => exact ⟨0, -1, Nat.zero_le _, rfl, rfl, rfl, 0, rfl⟩
    case round =>
      obtain ⟨k, lv, hk, rfl, rfl, hlv, hw⟩ := hrel
      have HW := hide hw
      have HLV := hide hlv
      clear hw hlv
      by_cases hlt : k < m
      · have hlt' : (k : Int) < (m : Int) := by omega
        have hkn' : (k : Int) < (n : Int) := by omega
        have hkn : k < n := by omega
        have hq0n : 0 < q := by omega
        have hq0n' : (0 : Int) < ((q : Nat) : Int) := by omega
        obtain ⟨b1, off1, rfl, hc1⟩ := (unhide HK) k hkn
        have d1 : wr.cell? ⟨b1, off1 + k, none⟩ = some (.string (K k)) := by
          obtain ⟨z, e1⟩ := unhide HW
          rw [e1]
          exact hc1
        have d2 : wr.cell? ⟨bp, offp, none⟩ = some (.string p0) := by
          obtain ⟨z, e1⟩ := unhide HW
          rw [e1]
          exact hp0
        clear hc1
        have hstep := lastOf_step K p0 k
        obtain ⟨kk, hkk⟩ : ∃ x, K k = x := ⟨_, rfl⟩
        rw [hkk] at d1 hstep
        clear hkk
        by_cases heq : kk = p0
        · have hb := bytes_beq_eq heq
          rw [if_pos heq] at hstep
          have Hst := hide hstep
          clear heq hstep
          go_wp2_with fail
          go_quiet (fail)
          clear hb d1 d2
          go_wp2
          go_roundw
          case rel =>
            refine ⟨k + 1, k, by omega, by go_num, rfl, by rw [unhide Hst]; rfl, ?_⟩
            obtain ⟨z, e1⟩ := unhide HW
            rw [e1]
            exact ⟨_, by rw [World.drewN_drewN]⟩
          case measure => simp [RowKit.intOf]; omega
        · have hb := bytes_beq_ne heq
          rw [if_neg heq] at hstep
          have Hst := hide hstep
          clear heq hstep
          go_wp2_with fail
          go_quiet (fail)
          clear hb d1 d2
          go_wp2
          go_roundw
          case rel =>
            refine ⟨k + 1, lv, by omega, by go_num, rfl, by rw [unhide Hst]; exact unhide HLV, ?_⟩
            obtain ⟨z, e1⟩ := unhide HW
            rw [e1]
            exact ⟨_, by rw [World.drewN_drewN]⟩
          case measure => simp [RowKit.intOf]; omega
      · have hlt' : ¬ (k : Int) < (m : Int) := by omega
        have HLM : Hid (lv = lastI (lastOf K p0 m)) := by
          have e : k = m := by omega
          rw [← e]
          exact unhide HLV
        clear HLV
        rcases unhide HL0 with hl | ⟨j, hl, hcase⟩
        · have hlneg : lv < 0 := by rw [unhide HLM, hl]; decide
          clear hl HLM HL0
          go_wp2
          go_ret
          exact ⟨rfl, unhide HW⟩
        · have hjm := (lastOf_lt hl).1
          obtain rfl : lv = (j : Int) := by rw [unhide HLM, hl]; rfl
          have hlneg : ¬ (j : Int) < 0 := by omega
          have Hcase := hide hcase
          clear hl HLM HL0 hcase
          by_cases hq3 : 3 ≤ q
          · have hq3' : (3 : Int) ≤ (q : Int) := by omega
            clear Hcase
            go_wp2
            go_ret
            exact ⟨rfl, unhide HW⟩
          · have hq2 : q = 2 ∧ ¬ (Canon (P 1).data.toList ∧ val 0 (P 1).data.toList < L j) := by
              rcases unhide Hcase with h | ⟨h, h2⟩
              · omega
              · exact ⟨by omega, h2⟩
            obtain ⟨rfl, hno⟩ := hq2
            have hc1 := row_at (unhide HP) 1 (by omega)
            obtain ⟨b2, off2, rfl, hc2, _⟩ := (unhide HN) j (by omega)
            have hlj := ((unhide HNs).2 j (by omega)).1
            have hps := (unhide HPs).2 1 (by omega)
            obtain ⟨p1, hp1⟩ : ∃ x, P 1 = x := ⟨_, rfl⟩
            rw [hp1] at hc1 hno hps
            have Hno := hide hno
            clear hp1 hno Hcase
            have d1 : wr.cell? ⟨bp, offp + 1, none⟩ = some (.string p1) := by
              obtain ⟨z, e1⟩ := unhide HW
              rw [e1]
              exact hc1
            have d2 : wr.cell? ⟨b2, off2 + j, none⟩ = some (.slice (A j) (L j) (C j)) := by
              obtain ⟨z, e1⟩ := unhide HW
              rw [e1]
              exact hc2
            clear hc1 hc2
            obtain ⟨lj, hlj2⟩ : ∃ x, L j = x := ⟨_, rfl⟩
            rw [hlj2] at d2 hlj Hno
            clear hlj2
            have hjm' : (j : Int) < (m : Int) := by omega
            go_wp2_with fail
            refine (zzIndex_any p1 lj wr hps hlj).mono ?_
            rintro e w5 ⟨⟨i, ok, rfl, hok, hnk⟩, rfl⟩
            cases ok with
            | true =>
              obtain ⟨h1, _, h2⟩ := hok rfl
              exact absurd ⟨h1, h2⟩ (unhide Hno)
            | false =>
              clear hok hnk
              go_wp2
              go_ret
              exact ⟨rfl, unhide HW⟩
  · have hmn' : ¬ (m : Int) < (n : Int) := by omega
    have eM : min n m = n := by omega
    rw [eM] at HL0
    go_wp2_with fail
    go_loopw [16, 17] (fun l i wr => ∃ (k : Nat) (lv : Int), k ≤ n ∧ i = .int .i64 k ∧ l = .int .i64 lv ∧ lv = lastI (lastOf K p0 k) ∧ ∃ z, wr = w.drewN z) (fun _ i _ => n - (RowKit.intOf i).toNat)
    case atStart => exact ⟨0, -1, Nat.zero_le _, rfl, rfl, rfl, 0, rfl⟩
    case round =>
      obtain ⟨k, lv, hk, rfl, rfl, hlv, hw⟩ := hrel
      have HW := hide hw
      have HLV := hide hlv
      clear hw hlv
      by_cases hlt : k < n
      · have hlt' : (k : Int) < (n : Int) := by omega
        have hkn' : (k : Int) < (n : Int) := by omega
        have hkn : k < n := by omega
        have hq0n : 0 < q := by omega
        have hq0n' : (0 : Int) < ((q : Nat) : Int) := by omega
        obtain ⟨b1, off1, rfl, hc1⟩ := (unhide HK) k hkn
        have d1 : wr.cell? ⟨b1, off1 + k, none⟩ = some (.string (K k)) := by
          obtain ⟨z, e1⟩ := unhide HW
          rw [e1]
          exact hc1
        have d2 : wr.cell? ⟨bp, offp, none⟩ = some (.string p0) := by
          obtain ⟨z, e1⟩ := unhide HW
          rw [e1]
          exact hp0
        clear hc1
        have hstep := lastOf_step K p0 k
        obtain ⟨kk, hkk⟩ : ∃ x, K k = x := ⟨_, rfl⟩
        rw [hkk] at d1 hstep
        clear hkk
        by_cases heq : kk = p0
        · have hb := bytes_beq_eq heq
          rw [if_pos heq] at hstep
          have Hst := hide hstep
          clear heq hstep
          go_wp2_with fail
          go_quiet (fail)
          clear hb d1 d2
          go_wp2
          go_roundw
          case rel =>
            refine ⟨k + 1, k, by omega, by go_num, rfl, by rw [unhide Hst]; rfl, ?_⟩
            obtain ⟨z, e1⟩ := unhide HW
            rw [e1]
            exact ⟨_, by rw [World.drewN_drewN]⟩
          case measure => simp [RowKit.intOf]; omega
        · have hb := bytes_beq_ne heq
          rw [if_neg heq] at hstep
          have Hst := hide hstep
          clear heq hstep
          go_wp2_with fail
          go_quiet (fail)
          clear hb d1 d2
          go_wp2
          go_roundw
          case rel =>
            refine ⟨k + 1, lv, by omega, by go_num, rfl, by rw [unhide Hst]; exact unhide HLV, ?_⟩
            obtain ⟨z, e1⟩ := unhide HW
            rw [e1]
            exact ⟨_, by rw [World.drewN_drewN]⟩
          case measure => simp [RowKit.intOf]; omega
      · have hlt' : ¬ (k : Int) < (n : Int) := by omega
        have HLM : Hid (lv = lastI (lastOf K p0 n)) := by
          have e : k = n := by omega
          rw [← e]
          exact unhide HLV
        clear HLV
        rcases unhide HL0 with hl | ⟨j, hl, hcase⟩
        · have hlneg : lv < 0 := by rw [unhide HLM, hl]; decide
          clear hl HLM HL0
          go_wp2
          go_ret
          exact ⟨rfl, unhide HW⟩
        · have hjm := (lastOf_lt hl).1
          obtain rfl : lv = (j : Int) := by rw [unhide HLM, hl]; rfl
          have hlneg : ¬ (j : Int) < 0 := by omega
          have Hcase := hide hcase
          clear hl HLM HL0 hcase
          by_cases hq3 : 3 ≤ q
          · have hq3' : (3 : Int) ≤ (q : Int) := by omega
            clear Hcase
            go_wp2
            go_ret
            exact ⟨rfl, unhide HW⟩
          · have hq2 : q = 2 ∧ ¬ (Canon (P 1).data.toList ∧ val 0 (P 1).data.toList < L j) := by
              rcases unhide Hcase with h | ⟨h, h2⟩
              · omega
              · exact ⟨by omega, h2⟩
            obtain ⟨rfl, hno⟩ := hq2
            have hc1 := row_at (unhide HP) 1 (by omega)
            obtain ⟨b2, off2, rfl, hc2, _⟩ := (unhide HN) j (by omega)
            have hlj := ((unhide HNs).2 j (by omega)).1
            have hps := (unhide HPs).2 1 (by omega)
            obtain ⟨p1, hp1⟩ : ∃ x, P 1 = x := ⟨_, rfl⟩
            rw [hp1] at hc1 hno hps
            have Hno := hide hno
            clear hp1 hno Hcase
            have d1 : wr.cell? ⟨bp, offp + 1, none⟩ = some (.string p1) := by
              obtain ⟨z, e1⟩ := unhide HW
              rw [e1]
              exact hc1
            have d2 : wr.cell? ⟨b2, off2 + j, none⟩ = some (.slice (A j) (L j) (C j)) := by
              obtain ⟨z, e1⟩ := unhide HW
              rw [e1]
              exact hc2
            clear hc1 hc2
            obtain ⟨lj, hlj2⟩ : ∃ x, L j = x := ⟨_, rfl⟩
            rw [hlj2] at d2 hlj Hno
            clear hlj2
            have hjm' : (j : Int) < (m : Int) := by omega
            go_wp2_with fail
            refine (zzIndex_any p1 lj wr hps hlj).mono ?_
            rintro e w5 ⟨⟨i, ok, rfl, hok, hnk⟩, rfl⟩
            cases ok with
            | true =>
              obtain ⟨h1, _, h2⟩ := hok rfl
              exact absurd ⟨h1, h2⟩ (unhide Hno)
            | false =>
              clear hok hnk
              go_wp2
              go_ret
              exact ⟨rfl, unhide HW⟩

set_option maxRecDepth 100000 in
set_option maxHeartbeats 4000000 in
theorem agrees1 (a1 : Option Addr) (n c1 : Nat) (K : Nat → ByteArray) (a2 : Option Addr) (m c2 : Nat) (A : Nat → Option Addr) (L C : Nat → Nat) (S : Nat → Nat → ByteArray) (a3 : Option Addr) (q c3 : Nat) (P : Nat → ByteArray) (w : World)
    (hK : StrRow w a1 n K) (hN : NestRow w a2 m A L C S) (hP : StrRow w a3 q P) (hKs : Lim n K) (hNs : LimN m L S) (hPs : Lim q P)
    (hq1 : q = 1) (j : Nat) (hl0 : lastOf K (P 0) (min n m) = some j) (ia : Option Addr) (ic : Nat) (hI : StrRow w ia (L j) (S j)) :
    Calls Tryd.prog 10 #[.slice a1 n c1, .slice a2 m c2, .slice a3 q c3, .int .i64 2, .int .i64 (L j : Nat), .slice ia (L j) ic, .bool true] w fun e w' => YesPost w e w' := by
  have HK := hide hK
  have HN := hide hN
  have HP := hide hP
  have HNs := hide hNs
  have HPs := hide hPs
  have hn := hKs.1
  have hm := hNs.1
  have hq := hPs.1
  clear hK hN hP hKs hNs hPs
  subst hq1
  have HL0 := hide hl0
  have HI := hide hI
  clear hl0 hI
  obtain ⟨bp, offp, rfl, hp0⟩ := (unhide HP) 0 (by omega)
  rw [Nat.add_zero] at hp0
  obtain ⟨p0, hpp⟩ : ∃ x, P 0 = x := ⟨_, rfl⟩
  rw [hpp] at hp0
  rw [hpp] at HL0
  clear hpp
  go_enter Tryd.func10, Tryd.ntmps10
  by_cases hmn : m < n
  · have hmn' : (m : Int) < (n : Int) := by omega
    have eM : min n m = m := by omega
    rw [eM] at HL0
    go_wp2_with fail
    go_loopw [16, 17] (fun l i wr => ∃ (k : Nat) (lv : Int), k ≤ m ∧ i = .int .i64 k ∧ l = .int .i64 lv ∧ lv = lastI (lastOf K p0 k) ∧ ∃ z, wr = w.drewN z) (fun _ i _ => m - (RowKit.intOf i).toNat)
    case atStart => exact ⟨0, -1, Nat.zero_le _, rfl, rfl, rfl, 0, rfl⟩
    case round =>
      obtain ⟨k, lv, hk, rfl, rfl, hlv, hw⟩ := hrel
      have HW := hide hw
      have HLV := hide hlv
      clear hw hlv
      by_cases hlt : k < m
      · have hlt' : (k : Int) < (m : Int) := by omega
        have hkn' : (k : Int) < (n : Int) := by omega
        have hkn : k < n := by omega
        have hq0n : 0 < 1 := by omega
        have hq0n' : (0 : Int) < ((1 : Nat) : Int) := by omega
        obtain ⟨b1, off1, rfl, hc1⟩ := (unhide HK) k hkn
        have d1 : wr.cell? ⟨b1, off1 + k, none⟩ = some (.string (K k)) := by
          obtain ⟨z, e1⟩ := unhide HW
          rw [e1]
          exact hc1
        have d2 : wr.cell? ⟨bp, offp, none⟩ = some (.string p0) := by
          obtain ⟨z, e1⟩ := unhide HW
          rw [e1]
          exact hp0
        clear hc1
        have hstep := lastOf_step K p0 k
        obtain ⟨kk, hkk⟩ : ∃ x, K k = x := ⟨_, rfl⟩
        rw [hkk] at d1 hstep
        clear hkk
        by_cases heq : kk = p0
        · have hb := bytes_beq_eq heq
          rw [if_pos heq] at hstep
          have Hst := hide hstep
          clear heq hstep
          go_wp2_with fail
          go_quiet (fail)
          clear hb d1 d2
          go_wp2
          go_roundw
          case rel =>
            refine ⟨k + 1, k, by omega, by go_num, rfl, by rw [unhide Hst]; rfl, ?_⟩
            obtain ⟨z, e1⟩ := unhide HW
            rw [e1]
            exact ⟨_, by rw [World.drewN_drewN]⟩
          case measure => simp [RowKit.intOf]; omega
        · have hb := bytes_beq_ne heq
          rw [if_neg heq] at hstep
          have Hst := hide hstep
          clear heq hstep
          go_wp2_with fail
          go_quiet (fail)
          clear hb d1 d2
          go_wp2
          go_roundw
          case rel =>
            refine ⟨k + 1, lv, by omega, by go_num, rfl, by rw [unhide Hst]; exact unhide HLV, ?_⟩
            obtain ⟨z, e1⟩ := unhide HW
            rw [e1]
            exact ⟨_, by rw [World.drewN_drewN]⟩
          case measure => simp [RowKit.intOf]; omega
      · have hlt' : ¬ (k : Int) < (m : Int) := by omega
        have HLM : Hid (lv = lastI (lastOf K p0 m)) := by
          have e : k = m := by omega
          rw [← e]
          exact unhide HLV
        clear HLV
        have hl := unhide HL0
        have hjm := (lastOf_lt hl).1
        obtain rfl : lv = (j : Int) := by rw [unhide HLM, hl]; rfl
        have hlneg : ¬ (j : Int) < 0 := by omega
        clear hl HLM HL0
        obtain ⟨b2, off2, rfl, hc2, hs2⟩ := (unhide HN) j (by omega)
        have hlj := ((unhide HNs).2 j (by omega)).1
        have d2 : wr.cell? ⟨b2, off2 + j, none⟩ = some (.slice (A j) (L j) (C j)) := by
          obtain ⟨z, e1⟩ := unhide HW
          rw [e1]
          exact hc2
        have Hs2 := hide hs2
        clear hc2 hs2
        obtain ⟨lj, hlj2⟩ : ∃ x, L j = x := ⟨_, rfl⟩
        rw [hlj2] at d2 hlj Hs2 HI ⊢
        clear hlj2
        generalize A j = aj at d2 Hs2
        generalize C j = cj at d2
        have hjm' : (j : Int) < (m : Int) := by omega
        have en : ((lj : Int) != (lj : Int)) = false := by simp
        obtain ⟨wo, hwo⟩ : ∃ x, x = wr := ⟨_, rfl⟩
        subst hwo
        go_wp2_with fail
        go_loopw [19] (fun i wr => ∃ h : Nat, h ≤ lj ∧ i = .int .i64 h ∧ ∃ z, wr = w.drewN z) (fun i _ => lj - (RowKit.intOf i).toNat)
        case atStart => exact ⟨0, Nat.zero_le _, rfl, unhide HW⟩
        case round =>
          clear HW
          obtain ⟨h, hh, rfl, hw⟩ := hrel
          have HW := hide hw
          clear hw
          by_cases hh2 : h < lj
          · have hh2' : (h : Int) < (lj : Int) := by omega
            obtain ⟨b4, off4, rfl, hc4⟩ := (unhide HI) h hh2
            obtain ⟨b5, off5, rfl, hc5⟩ := (unhide Hs2) h hh2
            have d4 : wr.cell? ⟨b4, off4 + h, none⟩ = some (.string (S j h)) := by
              obtain ⟨z, e1⟩ := unhide HW
              rw [e1]
              exact hc4
            have d5 : wr.cell? ⟨b5, off5 + h, none⟩ = some (.string (S j h)) := by
              obtain ⟨z, e1⟩ := unhide HW
              rw [e1]
              exact hc5
            clear hc4 hc5
            generalize S j h = sv at d4 d5
            have hb : (!(sv.toList == sv.toList)) = false := by simp
            have hb2 : (sv.toList == sv.toList) = true := by simp
            go_wp2_with fail
            go_quiet (fail)
            clear hb hb2 d4 d5
            go_wp2
            go_roundw
            case rel =>
              refine ⟨h + 1, by omega, by go_num, ?_⟩
              obtain ⟨z, e1⟩ := unhide HW
              rw [e1]
              exact ⟨_, by rw [World.drewN_drewN]⟩
            case measure => simp [RowKit.intOf]; omega
          · have hh2' : ¬ (h : Int) < (lj : Int) := by omega
            go_wp2
            go_ret
            exact ⟨rfl, unhide HW⟩
  · have hmn' : ¬ (m : Int) < (n : Int) := by omega
    have eM : min n m = n := by omega
    rw [eM] at HL0
    go_wp2_with fail
    go_loopw [16, 17] (fun l i wr => ∃ (k : Nat) (lv : Int), k ≤ n ∧ i = .int .i64 k ∧ l = .int .i64 lv ∧ lv = lastI (lastOf K p0 k) ∧ ∃ z, wr = w.drewN z) (fun _ i _ => n - (RowKit.intOf i).toNat)
    case atStart => exact ⟨0, -1, Nat.zero_le _, rfl, rfl, rfl, 0, rfl⟩
    case round =>
      obtain ⟨k, lv, hk, rfl, rfl, hlv, hw⟩ := hrel
      have HW := hide hw
      have HLV := hide hlv
      clear hw hlv
      by_cases hlt : k < n
      · have hlt' : (k : Int) < (n : Int) := by omega
        have hkn' : (k : Int) < (n : Int) := by omega
        have hkn : k < n := by omega
        have hq0n : 0 < 1 := by omega
        have hq0n' : (0 : Int) < ((1 : Nat) : Int) := by omega
        obtain ⟨b1, off1, rfl, hc1⟩ := (unhide HK) k hkn
        have d1 : wr.cell? ⟨b1, off1 + k, none⟩ = some (.string (K k)) := by
          obtain ⟨z, e1⟩ := unhide HW
          rw [e1]
          exact hc1
        have d2 : wr.cell? ⟨bp, offp, none⟩ = some (.string p0) := by
          obtain ⟨z, e1⟩ := unhide HW
          rw [e1]
          exact hp0
        clear hc1
        have hstep := lastOf_step K p0 k
        obtain ⟨kk, hkk⟩ : ∃ x, K k = x := ⟨_, rfl⟩
        rw [hkk] at d1 hstep
        clear hkk
        by_cases heq : kk = p0
        · have hb := bytes_beq_eq heq
          rw [if_pos heq] at hstep
          have Hst := hide hstep
          clear heq hstep
          go_wp2_with fail
          go_quiet (fail)
          clear hb d1 d2
          go_wp2
          go_roundw
          case rel =>
            refine ⟨k + 1, k, by omega, by go_num, rfl, by rw [unhide Hst]; rfl, ?_⟩
            obtain ⟨z, e1⟩ := unhide HW
            rw [e1]
            exact ⟨_, by rw [World.drewN_drewN]⟩
          case measure => simp [RowKit.intOf]; omega
        · have hb := bytes_beq_ne heq
          rw [if_neg heq] at hstep
          have Hst := hide hstep
          clear heq hstep
          go_wp2_with fail
          go_quiet (fail)
          clear hb d1 d2
          go_wp2
          go_roundw
          case rel =>
            refine ⟨k + 1, lv, by omega, by go_num, rfl, by rw [unhide Hst]; exact unhide HLV, ?_⟩
            obtain ⟨z, e1⟩ := unhide HW
            rw [e1]
            exact ⟨_, by rw [World.drewN_drewN]⟩
          case measure => simp [RowKit.intOf]; omega
      · have hlt' : ¬ (k : Int) < (n : Int) := by omega
        have HLM : Hid (lv = lastI (lastOf K p0 n)) := by
          have e : k = n := by omega
          rw [← e]
          exact unhide HLV
        clear HLV
        have hl := unhide HL0
        have hjm := (lastOf_lt hl).1
        obtain rfl : lv = (j : Int) := by rw [unhide HLM, hl]; rfl
        have hlneg : ¬ (j : Int) < 0 := by omega
        clear hl HLM HL0
        obtain ⟨b2, off2, rfl, hc2, hs2⟩ := (unhide HN) j (by omega)
        have hlj := ((unhide HNs).2 j (by omega)).1
        have d2 : wr.cell? ⟨b2, off2 + j, none⟩ = some (.slice (A j) (L j) (C j)) := by
          obtain ⟨z, e1⟩ := unhide HW
          rw [e1]
          exact hc2
        have Hs2 := hide hs2
        clear hc2 hs2
        obtain ⟨lj, hlj2⟩ : ∃ x, L j = x := ⟨_, rfl⟩
        rw [hlj2] at d2 hlj Hs2 HI ⊢
        clear hlj2
        generalize A j = aj at d2 Hs2
        generalize C j = cj at d2
        have hjm' : (j : Int) < (m : Int) := by omega
        have en : ((lj : Int) != (lj : Int)) = false := by simp
        obtain ⟨wo, hwo⟩ : ∃ x, x = wr := ⟨_, rfl⟩
        subst hwo
        go_wp2_with fail
        go_loopw [19] (fun i wr => ∃ h : Nat, h ≤ lj ∧ i = .int .i64 h ∧ ∃ z, wr = w.drewN z) (fun i _ => lj - (RowKit.intOf i).toNat)
        case atStart => exact ⟨0, Nat.zero_le _, rfl, unhide HW⟩
        case round =>
          clear HW
          obtain ⟨h, hh, rfl, hw⟩ := hrel
          have HW := hide hw
          clear hw
          by_cases hh2 : h < lj
          · have hh2' : (h : Int) < (lj : Int) := by omega
            obtain ⟨b4, off4, rfl, hc4⟩ := (unhide HI) h hh2
            obtain ⟨b5, off5, rfl, hc5⟩ := (unhide Hs2) h hh2
            have d4 : wr.cell? ⟨b4, off4 + h, none⟩ = some (.string (S j h)) := by
              obtain ⟨z, e1⟩ := unhide HW
              rw [e1]
              exact hc4
            have d5 : wr.cell? ⟨b5, off5 + h, none⟩ = some (.string (S j h)) := by
              obtain ⟨z, e1⟩ := unhide HW
              rw [e1]
              exact hc5
            clear hc4 hc5
            generalize S j h = sv at d4 d5
            have hb : (!(sv.toList == sv.toList)) = false := by simp
            have hb2 : (sv.toList == sv.toList) = true := by simp
            go_wp2_with fail
            go_quiet (fail)
            clear hb hb2 d4 d5
            go_wp2
            go_roundw
            case rel =>
              refine ⟨h + 1, by omega, by go_num, ?_⟩
              obtain ⟨z, e1⟩ := unhide HW
              rw [e1]
              exact ⟨_, by rw [World.drewN_drewN]⟩
            case measure => simp [RowKit.intOf]; omega
          · have hh2' : ¬ (h : Int) < (lj : Int) := by omega
            go_wp2
            go_ret
            exact ⟨rfl, unhide HW⟩

set_option maxRecDepth 100000 in
set_option maxHeartbeats 4000000 in
theorem agrees2 (a1 : Option Addr) (n c1 : Nat) (K : Nat → ByteArray) (a2 : Option Addr) (m c2 : Nat) (A : Nat → Option Addr) (L C : Nat → Nat) (S : Nat → Nat → ByteArray) (a3 : Option Addr) (q c3 : Nat) (P : Nat → ByteArray) (w : World)
    (hK : StrRow w a1 n K) (hN : NestRow w a2 m A L C S) (hP : StrRow w a3 q P) (hKs : Lim n K) (hNs : LimN m L S) (hPs : Lim q P)
    (hq2 : q = 2) (j : Nat) (hl0 : lastOf K (P 0) (min n m) = some j) (hcan : Canon (P 1).data.toList) (hvl0 : val 0 (P 1).data.toList < L j) (ia : Option Addr) (ic : Nat) (hI : StrRow w ia 1 (fun _ => S j (val 0 (P 1).data.toList))) :
    Calls Tryd.prog 10 #[.slice a1 n c1, .slice a2 m c2, .slice a3 q c3, .int .i64 3, .int .i64 1, .slice ia 1 ic, .bool true] w fun e w' => YesPost w e w' := by
  have HK := hide hK
  have HN := hide hN
  have HP := hide hP
  have HNs := hide hNs
  have HPs := hide hPs
  have hn := hKs.1
  have hm := hNs.1
  have hq := hPs.1
  clear hK hN hP hKs hNs hPs
  subst hq2
  have HL0 := hide hl0
  have HI := hide hI
  have HV := hide (show Canon (P 1).data.toList ∧ val 0 (P 1).data.toList < L j from ⟨hcan, hvl0⟩)
  clear hl0 hI hcan hvl0
  obtain ⟨bp, offp, rfl, hp0⟩ := (unhide HP) 0 (by omega)
  rw [Nat.add_zero] at hp0
  obtain ⟨p0, hpp⟩ : ∃ x, P 0 = x := ⟨_, rfl⟩
  rw [hpp] at hp0
  rw [hpp] at HL0
  clear hpp
  go_enter Tryd.func10, Tryd.ntmps10
  by_cases hmn : m < n
  · have hmn' : (m : Int) < (n : Int) := by omega
    have eM : min n m = m := by omega
    rw [eM] at HL0
    go_wp2_with fail
    go_loopw [16, 17] (fun l i wr => ∃ (k : Nat) (lv : Int), k ≤ m ∧ i = .int .i64 k ∧ l = .int .i64 lv ∧ lv = lastI (lastOf K p0 k) ∧ ∃ z, wr = w.drewN z) (fun _ i _ => m - (RowKit.intOf i).toNat)
    case atStart => exact ⟨0, -1, Nat.zero_le _, rfl, rfl, rfl, 0, rfl⟩
    case round =>
      obtain ⟨k, lv, hk, rfl, rfl, hlv, hw⟩ := hrel
      have HW := hide hw
      have HLV := hide hlv
      clear hw hlv
      by_cases hlt : k < m
      · have hlt' : (k : Int) < (m : Int) := by omega
        have hkn' : (k : Int) < (n : Int) := by omega
        have hkn : k < n := by omega
        have hq0n : 0 < 2 := by omega
        have hq0n' : (0 : Int) < ((2 : Nat) : Int) := by omega
        obtain ⟨b1, off1, rfl, hc1⟩ := (unhide HK) k hkn
        have d1 : wr.cell? ⟨b1, off1 + k, none⟩ = some (.string (K k)) := by
          obtain ⟨z, e1⟩ := unhide HW
          rw [e1]
          exact hc1
        have d2 : wr.cell? ⟨bp, offp, none⟩ = some (.string p0) := by
          obtain ⟨z, e1⟩ := unhide HW
          rw [e1]
          exact hp0
        clear hc1
        have hstep := lastOf_step K p0 k
        obtain ⟨kk, hkk⟩ : ∃ x, K k = x := ⟨_, rfl⟩
        rw [hkk] at d1 hstep
        clear hkk
        by_cases heq : kk = p0
        · have hb := bytes_beq_eq heq
          rw [if_pos heq] at hstep
          have Hst := hide hstep
          clear heq hstep
          go_wp2_with fail
          go_quiet (fail)
          clear hb d1 d2
          go_wp2
          go_roundw
          case rel =>
            refine ⟨k + 1, k, by omega, by go_num, rfl, by rw [unhide Hst]; rfl, ?_⟩
            obtain ⟨z, e1⟩ := unhide HW
            rw [e1]
            exact ⟨_, by rw [World.drewN_drewN]⟩
          case measure => simp [RowKit.intOf]; omega
        · have hb := bytes_beq_ne heq
          rw [if_neg heq] at hstep
          have Hst := hide hstep
          clear heq hstep
          go_wp2_with fail
          go_quiet (fail)
          clear hb d1 d2
          go_wp2
          go_roundw
          case rel =>
            refine ⟨k + 1, lv, by omega, by go_num, rfl, by rw [unhide Hst]; exact unhide HLV, ?_⟩
            obtain ⟨z, e1⟩ := unhide HW
            rw [e1]
            exact ⟨_, by rw [World.drewN_drewN]⟩
          case measure => simp [RowKit.intOf]; omega
      · have hlt' : ¬ (k : Int) < (m : Int) := by omega
        have HLM : Hid (lv = lastI (lastOf K p0 m)) := by
          have e : k = m := by omega
          rw [← e]
          exact unhide HLV
        clear HLV
        have hl := unhide HL0
        have hjm := (lastOf_lt hl).1
        obtain rfl : lv = (j : Int) := by rw [unhide HLM, hl]; rfl
        have hlneg : ¬ (j : Int) < 0 := by omega
        clear hl HLM HL0
        obtain ⟨b2, off2, rfl, hc2, hs2⟩ := (unhide HN) j (by omega)
        have hlj := ((unhide HNs).2 j (by omega)).1
        have hps := (unhide HPs).2 1 (by omega)
        have hc1 := row_at (unhide HP) 1 (by omega)
        have d2 : wr.cell? ⟨b2, off2 + j, none⟩ = some (.slice (A j) (L j) (C j)) := by
          obtain ⟨z, e1⟩ := unhide HW
          rw [e1]
          exact hc2
        have hv2 := (unhide HV).2
        obtain ⟨b4, off4, rfl, hc4⟩ := (unhide HI) 0 (by omega)
        obtain ⟨b5, off5, haj, hc5⟩ := hs2 _ hv2
        obtain ⟨p1, hp1⟩ : ∃ x, P 1 = x := ⟨_, rfl⟩
        rw [hp1] at hc1 hps hc4 hc5 HV
        clear hp1 hs2 hc2 hv2
        have d1 : wr.cell? ⟨bp, offp + 1, none⟩ = some (.string p1) := by
          obtain ⟨z, e1⟩ := unhide HW
          rw [e1]
          exact hc1
        have d4 : wr.cell? ⟨b4, off4, none⟩ = some (.string (S j (val 0 p1.data.toList))) := by
          obtain ⟨z, e1⟩ := unhide HW
          rw [e1]
          exact hc4
        have d5 : wr.cell? ⟨b5, off5 + val 0 p1.data.toList, none⟩ = some (.string (S j (val 0 p1.data.toList))) := by
          obtain ⟨z, e1⟩ := unhide HW
          rw [e1]
          exact hc5
        rw [haj] at d2
        clear hc1 hc4 hc5 haj
        generalize S j (val 0 p1.data.toList) = sv at d4 d5
        obtain ⟨lj, hlj2⟩ : ∃ x, L j = x := ⟨_, rfl⟩
        rw [hlj2] at d2 hlj HV
        clear hlj2
        generalize C j = cj at d2
        have hjm' : (j : Int) < (m : Int) := by omega
        go_wp2_with fail
        refine (zzIndex_any p1 lj wr hps hlj).mono ?_
        rintro e w5 ⟨⟨i, ok, rfl, hok, hnk⟩, rfl⟩
        cases ok with
        | false => exact absurd (unhide HV) (hnk rfl)
        | true =>
          obtain ⟨_, rfl, hvl⟩ := hok rfl
          clear hok hnk
          generalize val 0 p1.data.toList = iv at d5 hvl ⊢
          have hvl' : (iv : Int) < (lj : Int) := by omega
          have hb2 : (sv.toList == sv.toList) = true := by simp
          go_wp2_with fail
          go_quiet (fail)
          clear hb2 d4 d5
          go_wp2
          go_ret
          refine ⟨rfl, ?_⟩
          obtain ⟨z, e1⟩ := unhide HW
          rw [e1]
          exact ⟨_, by rw [World.drewN_drewN]⟩
  · have hmn' : ¬ (m : Int) < (n : Int) := by omega
    have eM : min n m = n := by omega
    rw [eM] at HL0
    go_wp2_with fail
    go_loopw [16, 17] (fun l i wr => ∃ (k : Nat) (lv : Int), k ≤ n ∧ i = .int .i64 k ∧ l = .int .i64 lv ∧ lv = lastI (lastOf K p0 k) ∧ ∃ z, wr = w.drewN z) (fun _ i _ => n - (RowKit.intOf i).toNat)
    case atStart => exact ⟨0, -1, Nat.zero_le _, rfl, rfl, rfl, 0, rfl⟩
    case round =>
      obtain ⟨k, lv, hk, rfl, rfl, hlv, hw⟩ := hrel
      have HW := hide hw
      have HLV := hide hlv
      clear hw hlv
      by_cases hlt : k < n
      · have hlt' : (k : Int) < (n : Int) := by omega
        have hkn' : (k : Int) < (n : Int) := by omega
        have hkn : k < n := by omega
        have hq0n : 0 < 2 := by omega
        have hq0n' : (0 : Int) < ((2 : Nat) : Int) := by omega
        obtain ⟨b1, off1, rfl, hc1⟩ := (unhide HK) k hkn
        have d1 : wr.cell? ⟨b1, off1 + k, none⟩ = some (.string (K k)) := by
          obtain ⟨z, e1⟩ := unhide HW
          rw [e1]
          exact hc1
        have d2 : wr.cell? ⟨bp, offp, none⟩ = some (.string p0) := by
          obtain ⟨z, e1⟩ := unhide HW
          rw [e1]
          exact hp0
        clear hc1
        have hstep := lastOf_step K p0 k
        obtain ⟨kk, hkk⟩ : ∃ x, K k = x := ⟨_, rfl⟩
        rw [hkk] at d1 hstep
        clear hkk
        by_cases heq : kk = p0
        · have hb := bytes_beq_eq heq
          rw [if_pos heq] at hstep
          have Hst := hide hstep
          clear heq hstep
          go_wp2_with fail
          go_quiet (fail)
          clear hb d1 d2
          go_wp2
          go_roundw
          case rel =>
            refine ⟨k + 1, k, by omega, by go_num, rfl, by rw [unhide Hst]; rfl, ?_⟩
            obtain ⟨z, e1⟩ := unhide HW
            rw [e1]
            exact ⟨_, by rw [World.drewN_drewN]⟩
          case measure => simp [RowKit.intOf]; omega
        · have hb := bytes_beq_ne heq
          rw [if_neg heq] at hstep
          have Hst := hide hstep
          clear heq hstep
          go_wp2_with fail
          go_quiet (fail)
          clear hb d1 d2
          go_wp2
          go_roundw
          case rel =>
            refine ⟨k + 1, lv, by omega, by go_num, rfl, by rw [unhide Hst]; exact unhide HLV, ?_⟩
            obtain ⟨z, e1⟩ := unhide HW
            rw [e1]
            exact ⟨_, by rw [World.drewN_drewN]⟩
          case measure => simp [RowKit.intOf]; omega
      · have hlt' : ¬ (k : Int) < (n : Int) := by omega
        have HLM : Hid (lv = lastI (lastOf K p0 n)) := by
          have e : k = n := by omega
          rw [← e]
          exact unhide HLV
        clear HLV
        have hl := unhide HL0
        have hjm := (lastOf_lt hl).1
        obtain rfl : lv = (j : Int) := by rw [unhide HLM, hl]; rfl
        have hlneg : ¬ (j : Int) < 0 := by omega
        clear hl HLM HL0
        obtain ⟨b2, off2, rfl, hc2, hs2⟩ := (unhide HN) j (by omega)
        have hlj := ((unhide HNs).2 j (by omega)).1
        have hps := (unhide HPs).2 1 (by omega)
        have hc1 := row_at (unhide HP) 1 (by omega)
        have d2 : wr.cell? ⟨b2, off2 + j, none⟩ = some (.slice (A j) (L j) (C j)) := by
          obtain ⟨z, e1⟩ := unhide HW
          rw [e1]
          exact hc2
        have hv2 := (unhide HV).2
        obtain ⟨b4, off4, rfl, hc4⟩ := (unhide HI) 0 (by omega)
        obtain ⟨b5, off5, haj, hc5⟩ := hs2 _ hv2
        obtain ⟨p1, hp1⟩ : ∃ x, P 1 = x := ⟨_, rfl⟩
        rw [hp1] at hc1 hps hc4 hc5 HV
        clear hp1 hs2 hc2 hv2
        have d1 : wr.cell? ⟨bp, offp + 1, none⟩ = some (.string p1) := by
          obtain ⟨z, e1⟩ := unhide HW
          rw [e1]
          exact hc1
        have d4 : wr.cell? ⟨b4, off4, none⟩ = some (.string (S j (val 0 p1.data.toList))) := by
          obtain ⟨z, e1⟩ := unhide HW
          rw [e1]
          exact hc4
        have d5 : wr.cell? ⟨b5, off5 + val 0 p1.data.toList, none⟩ = some (.string (S j (val 0 p1.data.toList))) := by
          obtain ⟨z, e1⟩ := unhide HW
          rw [e1]
          exact hc5
        rw [haj] at d2
        clear hc1 hc4 hc5 haj
        generalize S j (val 0 p1.data.toList) = sv at d4 d5
        obtain ⟨lj, hlj2⟩ : ∃ x, L j = x := ⟨_, rfl⟩
        rw [hlj2] at d2 hlj HV
        clear hlj2
        generalize C j = cj at d2
        have hjm' : (j : Int) < (m : Int) := by omega
        go_wp2_with fail
        refine (zzIndex_any p1 lj wr hps hlj).mono ?_
        rintro e w5 ⟨⟨i, ok, rfl, hok, hnk⟩, rfl⟩
        cases ok with
        | false => exact absurd (unhide HV) (hnk rfl)
        | true =>
          obtain ⟨_, rfl, hvl⟩ := hok rfl
          clear hok hnk
          generalize val 0 p1.data.toList = iv at d5 hvl ⊢
          have hvl' : (iv : Int) < (lj : Int) := by omega
          have hb2 : (sv.toList == sv.toList) = true := by simp
          go_wp2_with fail
          go_quiet (fail)
          clear hb2 d4 d5
          go_wp2
          go_ret
          refine ⟨rfl, ?_⟩
          obtain ⟨z, e1⟩ := unhide HW
          rw [e1]
          exact ⟨_, by rw [World.drewN_drewN]⟩
end Go.Proofs.Qxb6604757aDoor
