/-
  The law FnEditDropColumnEachInTurn: it returns true.
-/
import Derived.Test.Qxb6604493aFmtEdit
import Derived.Test.Qxb6604493aFmtPtr
import Derived.BigQuiet
import Derived.Deep.QuietTactic
namespace Go.Proofs.Qxb6604493aFmt
open Go.RowKit Go.Lib Go.Extern.Stop Go.Stop Go.Extern

theorem below_drewN_self (w : World) (q : Nat) : Below w.heap.size w (w.drewN q) := ⟨rfl, rfl, rfl, Nat.le_refl _, fun _ _ => rfl⟩

theorem each_step {w : World} {eb tb ab n k : Nat} {S : Nat → ByteArray} {tn sk : ByteArray} {wr : World} {e : Ending} {w' : World}
    (h : DropPost w eb tb ab (n - k) n (fun j => w.heap.size + 1 + (k + j)) (fun j => S (k + j)) tn sk wr e w') (hk : k < n) (hsk : S k = sk) (hA : AllCols w n wr) (hne : w.heap.size ≠ tb ∧ w.heap.size ≠ ab) :
    e = .returned .nilIface ∧ Ed w eb tb ab (n - (k + 1)) n (fun j => w.heap.size + 1 + (k + 1 + j)) (fun j => S (k + 1 + j)) tn w' ∧ AllCols w n w' := by
  rcases h with ⟨_, hno, _⟩ | ⟨rfl, i, hi, _, hno, hE, hB⟩
  · exact absurd (Same.refl (S k)) (by have := hno 0 (by omega); rw [← hsk] at this; simpa using this)
  · have i0 : i = 0 := by
      rcases Nat.eq_zero_or_pos i with h | h
      · exact h
      · exact absurd (Same.refl (S k)) (by have := hno 0 h; rw [← hsk] at this; simpa using this)
    subst i0
    refine ⟨rfl, ?_, fun j hj => hB.cell (hA j hj) (by exact hne.1) (by exact hne.2)⟩
    have e1 : del (fun j => w.heap.size + 1 + (k + j)) 0 = fun j => w.heap.size + 1 + (k + 1 + j) := by funext j; simp [del]; omega
    have e2 : del (fun j => S (k + j)) 0 = fun j => S (k + 1 + j) := by
      funext j
      simp only [del, Nat.not_lt_zero, if_false]
      congr 1
      omega
    rw [e1, e2] at hE
    exact hE

set_option maxRecDepth 100000 in
set_option maxHeartbeats 4000000 in
theorem each_any (F : Interp) (a : Option Addr) (n c : Nat) (S : Nat → ByteArray) (tn q : ByteArray) (w : World) (hF : F.answers w.tape) (hm : n ≤ 9223372036854775807) (htn : tn.size ≤ 9223372036854775807) (hq : q.size ≤ 9223372036854775807)
    (hS : StrRow w a n S) (hT : FoldTabs w) (hU : Utf8Tabs 3 4 w) :
    Calls Tryf.prog 4 #[.slice a n c, .string tn, .string q] w fun e w' => TruePost w e w' := by
  have HS := hide hS
  have HT := hide hT
  have HU := hide hU
  have HF := hide hF
  clear hS hT hU hF
  go_enter Tryf.func4, Tryf.ntmps4
  go_wp2_with fail
  refine (zzBytes13_any a n c S tn q w hm htn hq (unhide HS)).mono ?_
  rintro e w1 ⟨⟨r, rfl, hr⟩, rfl⟩
  cases r with
  | false =>
    clear hr
    go_wp2
    go_ret
    exact ⟨rfl, Below.refl _ _⟩
  | true =>
    obtain ⟨hn20, hS20, ht20, hq20⟩ := hr rfl
    have HS20 := hide hS20
    clear hr hS20 hm htn hq
    by_cases h12 : 4096 < n
    · have h12' : (4096 : Int) < (n : Int) := by omega
      go_wp2
      go_ret
      exact ⟨rfl, Below.refl _ _⟩
    · have h12' : ¬ (4096 : Int) < (n : Int) := by omega
      have ht' : ¬ (1048576 : Int) < (tn.size : Int) := by omega
      have hq' : ¬ (1048576 : Int) < (q.size : Int) := by omega
      go_wp2_with fail
      refine (stringsBytes_any a n c S w1 (by omega) (unhide HS)).mono ?_
      rintro e w2 ⟨⟨r, rfl, hr0, hr1⟩, rfl⟩
      by_cases hbig : (1048576 : Int) < r + (tn.size : Int) + (q.size : Int)
      · go_wp2
        go_ret
        exact ⟨rfl, Below.refl _ _⟩
      · go_wp2_with fail
        refine (makeColumns_any a n c S w2 (by omega) (unhide HS)).mono ?_
        rintro e w3 ⟨rfl, hC3⟩
        have HC3 := hide hC3
        clear hC3 hbig
        go_wp2_with fail
        refine (copyColumns_any w2.heap.size n n (fun j => ⟨w2.heap.size + 1 + j, 0, none⟩) w3 (by omega) (by have := (unhide HC3).size; omega) (fun j hj => by rw [(unhide HC3).row j hj, if_pos hj])).mono ?_
        rintro e w4 ⟨rfl, hC4⟩
        have HC4 := hide hC4
        clear hC4
        go_wp2_with fail
        refine (newEdit_any w4.heap.size _).mono ?_
        rintro e w5 ⟨eb, rfl, heb, hec, hb5⟩
        obtain ⟨hE5, hA5⟩ := setup (tn := tn) (unhide HC3) (unhide HC4) hn20 (unhide HS20) (unhide HT) (unhide HU) heb hec hb5
        have HE5 := hide hE5
        have HA5 := hide hA5
        have hcne : w2.heap.size ≠ w4.heap.size ∧ w2.heap.size ≠ w3.heap.size := by have := (unhide HC3).size; have := (unhide HC4).size; omega
        have Hcne := hide hcne
        clear hE5 hA5 heb hec hb5 HC3 HC4 HT HU hcne
        generalize w4.heap.size = tb at HE5 Hcne ⊢
        generalize w3.heap.size = ab at HE5 Hcne ⊢
        go_wp2_with fail
        go_loopw [11] (fun i wr => ∃ k : Nat, k ≤ n ∧ i = .int .i64 k ∧ Ed w2 eb tb ab (n - k) n (fun j => w2.heap.size + 1 + (k + j)) (fun j => S (k + j)) tn wr ∧ AllCols w2 n wr) (fun i _ => n - (RowKit.intOf i).toNat)
        case atStart =>
          refine ⟨0, Nat.zero_le _, rfl, ?_, unhide HA5⟩
          have := unhide HE5
          simpa using this
        case round =>
          obtain ⟨k, hk, rfl, hE, hA⟩ := hrel
          have HE := hide hE
          have HA := hide hA
          have HFr : Hid (F.answers wr.tape) := by show F.answers wr.tape; rw [hE.below.tape]; exact unhide HF
          clear HE5 HA5
          by_cases hlt : k < n
          · have hlt' : (k : Int) < (n : Int) := by omega
            obtain ⟨b, off, rfl, hc⟩ := (unhide HS) k hlt
            have hc' : wr.cell? ⟨b, off + k, none⟩ = some (.string (S k)) := (hE.below.cell (World.block_lt_of_cell? _ _ hc)).trans hc
            have Hs : Hid ((S k).size ≤ 1048576) := (unhide HS20) k hlt
            obtain ⟨sk, hsk⟩ : ∃ sk, S k = sk := ⟨_, rfl⟩
            rw [hsk] at hc' Hs
            have HSK := hide hsk
            clear hE hA hc hsk
            go_wp2_with fail
            refine (editDrop_any F w2 eb tb ab (n - k) n _ _ tn sk wr (unhide HFr) (unhide Hs) (unhide HE)).mono ?_
            intro e w6 h6
            obtain ⟨rfl, hE6, hA6⟩ := each_step h6 hlt (unhide HSK) (unhide HA) (unhide Hcne)
            have HE6 := hide hE6
            have HA6 := hide hA6
            have he6 := hE6.edit
            have hs6 := hE6.slice
            have Hrow := hide hE6.cols.row
            clear h6 hE6 hA6 HE HA HSK Hs HFr hc'
            by_cases hk1 : k + 1 < n
            · have hk1' : (k : Int) + 1 < (n : Int) := by omega
              have r0 : w6.cell? ⟨ab, 0, none⟩ = some (.pointer (some ⟨w2.heap.size + 1 + (k + 1), 0, none⟩)) := (unhide Hrow) 0 (by omega)
              have c0 : w6.cell? ⟨w2.heap.size, k + 1, none⟩ = some (.pointer (some ⟨w2.heap.size + 1 + (k + 1), 0, none⟩)) := (unhide HA6) (k + 1) (by omega)
              have rl : w6.cell? ⟨ab, n - (k + 1) - 1, none⟩ = some (.pointer (some ⟨w2.heap.size + 1 + (n - 1), 0, none⟩)) := by
                have := (unhide Hrow) (n - (k + 1) - 1) (by omega)
                rw [show k + 1 + (n - (k + 1) - 1) = n - 1 by omega] at this
                exact this
              have cl : w6.cell? ⟨w2.heap.size, n - 1, none⟩ = some (.pointer (some ⟨w2.heap.size + 1 + (n - 1), 0, none⟩)) := (unhide HA6) (n - 1) (by omega)
              generalize w2.heap.size + 1 + (k + 1) = p0 at r0 c0
              generalize w2.heap.size + 1 + (n - 1) = p1 at rl cl
              clear Hrow
              obtain ⟨m, hm⟩ : ∃ m, n - (k + 1) = m := ⟨_, rfl⟩
              rw [hm] at hs6 rl
              obtain ⟨N, hN⟩ : ∃ N, n - 1 = N := ⟨_, rfl⟩
              rw [hN] at cl
              obtain ⟨M, hM⟩ : ∃ M, m - 1 = M := ⟨_, rfl⟩
              rw [hM] at rl
              have q0 : 0 < m := by omega
              have q1 : (0 : Int) < (m : Int) := by omega
              have q2 : (m : Int) - 1 = (M : Int) := by omega
              have q3 : (M : Int) < (m : Int) := by omega
              have q4 : (n : Int) - 1 = (N : Int) := by omega
              have q5 : (N : Int) < (n : Int) := by omega
              have q6 : ((m : Int) != (N : Int) - (k : Int)) = false := by simp; omega
              obtain ⟨K1, hK1⟩ : ∃ K1, k + 1 = K1 := ⟨_, rfl⟩
              rw [hK1] at c0
              have wk : IntKind.i64.wrap ((k : Int) + 1) = (K1 : Int) := by rw [IntKind.wrap_i64]; omega
              have wM : IntKind.i64.wrap (M : Int) = (M : Int) := by rw [IntKind.wrap_i64]; omega
              have wN : IntKind.i64.wrap (N : Int) = (N : Int) := by rw [IntKind.wrap_i64]; omega
              have q7 : (K1 : Int) < (n : Int) := by omega
              have q8 : K1 < n := by omega
              have q9 : M < m := by omega
              have q10 : N < n := by omega
              clear hm hN hM hK1
              go_wp2_with (go_at_call 11; refine (editTable_any eb tb _ he6).mono ?_; rintro e w' ⟨rfl, rfl⟩)
              have hpe := neq49_same
              go_quiet (fail)
              clear wk wM wN q2 q4 q6 q7 q8 q9 q10 q0 q1 q3 q5 r0 c0 rl cl
              go_wp2
              go_roundw
              case rel => exact ⟨k + 1, by omega, by go_num, (unhide HE6).trans (below_drewN_self _ _), unhide HA6⟩
              case measure => simp [RowKit.intOf]; omega
            · have hk1' : ¬ (k : Int) + 1 < (n : Int) := by omega
              clear Hrow
              go_wp2_with (go_at_call 11; refine (editTable_any eb tb _ he6).mono ?_; rintro e w' ⟨rfl, rfl⟩)
              go_roundw
              case rel => exact ⟨k + 1, by omega, by go_num, unhide HE6, unhide HA6⟩
              case measure => simp [RowKit.intOf]; omega
          · obtain rfl : k = n := by omega
            have hz : k - k = 0 := Nat.sub_self k
            rw [hz] at hE HE
            have HFr2 := HFr
            clear hE hA HA
            go_wp2_with fail
            refine (editDrop_any F w2 eb tb ab 0 k _ _ tn q wr (unhide HFr) hq20 (unhide HE)).mono ?_
            rintro e w6 (⟨⟨p, rfl⟩, -, hE6, -⟩ | ⟨-, i, hi, -⟩)
            · have HE6 := hide hE6
              have he6 := hE6.edit
              have hs6 := hE6.slice
              have hn6 := hE6.name
              clear hE6 HE
              have hpe := eql27_same
              go_wp2_with (go_at_call 11; refine (editTable_any eb tb _ he6).mono ?_; rintro e w' ⟨rfl, rfl⟩)
              go_ret
              exact ⟨rfl, (unhide HE6).below⟩
            · omega
end Go.Proofs.Qxb6604493aFmt
