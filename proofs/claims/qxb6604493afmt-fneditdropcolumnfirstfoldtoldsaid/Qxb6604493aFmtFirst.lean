/-
  The law FnEditDropColumnFirstFold: it returns true.
-/
import Derived.Test.Qxb6604493aFmtEdit
import Derived.Test.Qxb6604493aFmtPtr
import Derived.Test.Qxb6604493aFmtVerdict
import Derived.BigQuiet
import Derived.Deep.QuietTactic
namespace Go.Proofs.Qxb6604493aFmt
open Go.RowKit Go.Lib Go.Extern.Stop Go.Stop Go.Extern

/-- Each column lies in a block of its own. -/
def AllBlk (w : World) (n : Nat) (wr : World) : Prop := ∀ j, j < n → ∃ c t, wr.heap[w.heap.size + 1 + j]? = some (.cells c t (0, 0))

theorem setup_blk {w w3 w4 w5 : World} {n : Nat} {S : Nat → ByteArray} {tn : ByteArray} (h3 : ColsAt w n S n w3) (h4 : CopyAt w3 n (fun j => ⟨w.heap.size + 1 + j, 0, none⟩) n w4)
    (hb : Below (w4.alloc (tableObj tn w3.heap.size n)).heap.size (w4.alloc (tableObj tn w3.heap.size n)) w5) : AllBlk w n w5 := by
  intro j hj
  have s3 := h3.size
  have s4 := h4.size
  obtain ⟨c, t, h⟩ := h3.blk j hj
  refine ⟨c, t, ?_⟩
  rw [hb.block _ (by simp; omega), Below.heap_alloc _ _ _ (by omega), h4.below.block _ (by omega)]
  exact h

theorem AllBlk.but {w w5 w6 : World} {n tb ab : Nat} (h : AllBlk w n w5) (hB : But2 w5 tb ab w6) (h1 : w.heap.size + 1 + n ≤ tb) (h2 : w.heap.size + 1 + n ≤ ab) : AllBlk w n w6 := by
  intro j hj
  obtain ⟨c, t, hb⟩ := h j hj
  exact ⟨c, t, by rw [hB.block _ (Array.getElem?_eq_some_iff.1 hb).1 (by omega) (by omega)]; exact hb⟩

theorem AllCols.but {w w5 w6 : World} {n tb ab : Nat} (h : AllCols w n w5) (hB : But2 w5 tb ab w6) (h1 : w.heap.size + 1 + n ≤ tb) (h2 : w.heap.size + 1 + n ≤ ab) : AllCols w n w6 :=
  fun j hj => hB.cell (h j hj) (by show w.heap.size ≠ tb; omega) (by show w.heap.size ≠ ab; omega)

theorem strRow_later {w wr : World} {a : Option Addr} {n : Nat} {S : Nat → ByteArray} (h : StrRow w a n S) (hb : Below w.heap.size w wr) (q : Nat) : StrRow (wr.drewN q) a n S := by
  intro i hi
  obtain ⟨b, off, ha, hc⟩ := h i hi
  exact ⟨b, off, ha, (hb.cell (World.block_lt_of_cell? _ _ hc)).trans hc⟩

/-- The second world differs from the first in numbers drawn only. -/
def Drew (w wr : World) : Prop := ∃ z, wr = w.drewN z
theorem Drew.refl (w : World) : Drew w w := ⟨0, rfl⟩
theorem Drew.trans {w w1 w2 : World} (h : Drew w w1) (h2 : Drew w1 w2) : Drew w w2 := by
  obtain ⟨z, rfl⟩ := h
  obtain ⟨z2, rfl⟩ := h2
  exact ⟨_, World.drewN_drewN _ _ _⟩
theorem Drew.drewN {w w1 : World} (h : Drew w w1) (z : Nat) : Drew w (w1.drewN z) := h.trans ⟨z, rfl⟩
theorem Drew.cell {w w1 : World} {a : Addr} (h : Drew w w1) : w1.cell? a = w.cell? a := by
  obtain ⟨z, rfl⟩ := h
  rfl
theorem Drew.heap {w w1 : World} (h : Drew w w1) : w1.heap = w.heap := by
  obtain ⟨z, rfl⟩ := h
  rfl
theorem Drew.row {w w1 wr : World} {a : Option Addr} {n : Nat} {S : Nat → ByteArray} (h : Drew w1 wr) (hs : StrRow w a n S) (hb : Below w.heap.size w w1) : StrRow wr a n S := by
  obtain ⟨z, rfl⟩ := h
  exact strRow_later hs hb z
theorem Drew.below {w w1 wr : World} {m : Nat} (h : Drew w1 wr) (hb : Below m w w1) : Below m w wr := by
  obtain ⟨z, rfl⟩ := h
  exact ⟨hb.os, hb.tape, hb.output, hb.size, hb.block⟩

set_option maxRecDepth 100000 in
set_option maxHeartbeats 8000000 in
theorem first_any (F : Interp) (a : Option Addr) (n c : Nat) (S : Nat → ByteArray) (tn q : ByteArray) (w : World) (hF : F.answers w.tape) (hm : n ≤ 9223372036854775807) (htn : tn.size ≤ 9223372036854775807) (hq : q.size ≤ 9223372036854775807)
    (hS : StrRow w a n S) (hT : FoldTabs w) (hU : Utf8Tabs 3 4 w) :
    Calls Tryf.prog 3 #[.slice a n c, .string tn, .string q] w fun e w' => TruePost w e w' := by
  have HS := hide hS
  have HT := hide hT
  have HU := hide hU
  have HF := hide hF
  clear hS hT hU hF
  go_enter Tryf.func3, Tryf.ntmps3
  go_wp2_with fail
  refine (zzBytes5_any a n c S tn q w hm htn hq (unhide HS)).mono ?_
  rintro e w1 ⟨⟨r, rfl, hr⟩, rfl⟩
  cases r with
  | false =>
    clear hr
    go_wp2
    go_ret
    exact ⟨rfl, Below.refl _ _⟩
  | true =>
    obtain ⟨hn20, hS20, ht20, hq20⟩ := hr rfl
    have HS20 := hide hS20
    clear hr hS20 hm htn hq
    by_cases h12 : 65536 < n
    · have h12' : (65536 : Int) < (n : Int) := by omega
      go_wp2
      go_ret
      exact ⟨rfl, Below.refl _ _⟩
    · have h12' : ¬ (65536 : Int) < (n : Int) := by omega
      have ht' : ¬ (1048576 : Int) < (tn.size : Int) := by omega
      have hq' : ¬ (1048576 : Int) < (q.size : Int) := by omega
      go_wp2_with fail
      refine (stringsBytes_any a n c S w1 (by omega) (unhide HS)).mono ?_
      rintro e w2 ⟨⟨r, rfl, hr0, hr1⟩, rfl⟩
      by_cases hbig : (1048576 : Int) < r + (tn.size : Int) + (q.size : Int)
      · go_wp2
        go_ret
        exact ⟨rfl, Below.refl _ _⟩
      · go_wp2_with fail
        refine (makeColumns_any a n c S w2 (by omega) (unhide HS)).mono ?_
        rintro e w3 ⟨rfl, hC3⟩
        have HC3 := hide hC3
        clear hC3 hbig
        go_wp2_with fail
        refine (copyColumns_any w2.heap.size n n (fun j => ⟨w2.heap.size + 1 + j, 0, none⟩) w3 (by omega) (by have := (unhide HC3).size; omega) (fun j hj => by rw [(unhide HC3).row j hj, if_pos hj])).mono ?_
        rintro e w4 ⟨rfl, hC4⟩
        have HC4 := hide hC4
        clear hC4
        go_wp2_with fail
        refine (newEdit_any w4.heap.size _).mono ?_
        rintro e w5 ⟨eb, rfl, heb, hec, hb5⟩
        obtain ⟨hE5, hA5⟩ := setup (tn := tn) (unhide HC3) (unhide HC4) hn20 (unhide HS20) (unhide HT) (unhide HU) heb hec hb5
        have hK5 := setup_blk (tn := tn) (unhide HC3) (unhide HC4) hb5
        have HE5 := hide hE5
        have HA5 := hide hA5
        have HK5 := hide hK5
        have hle : w2.heap.size + 1 + n ≤ w4.heap.size ∧ w2.heap.size + 1 + n ≤ w3.heap.size := by have := (unhide HC3).size; have := (unhide HC4).size; omega
        have Hle := hide hle
        have HF5 : Hid (F.answers w5.tape) := by show F.answers w5.tape; rw [hE5.below.tape]; exact unhide HF
        clear hE5 hA5 hK5 heb hec hb5 HC3 HC4 HT HU hle HF
        generalize w4.heap.size = tb at HE5 Hle ⊢
        generalize w3.heap.size = ab at HE5 Hle ⊢
        go_wp2_with fail
        refine (editDrop_any F w2 eb tb ab n n _ _ tn q w5 (unhide HF5) hq20 (unhide HE5)).mono ?_
        rintro e w6 (⟨⟨p, rfl⟩, hno, hE6, hB6⟩ | ⟨rfl, i, hi, hnd, hno, hE6, hB6⟩)
        · have Hno := hide hno
          have he6 := hE6.edit
          have hs6 := hE6.slice
          have hn6 := hE6.name
          have Hrow := hide hE6.cols.row
          have HA6 := hide ((unhide HA5).but hB6 (unhide Hle).1 (unhide Hle).2)
          have Hb6 := hide hE6.below
          clear hno hE6 hB6 HE5 HA5 HK5 HF5
          have hpe := neq27_same
          go_wp2_with (go_at_call 11; refine (editTable_any eb tb _ he6).mono ?_; rintro e w' ⟨rfl, rfl⟩)
          clear hpe
          go_loopw [14] (fun i wr => ∃ k : Nat, k ≤ n ∧ i = .int .i64 k ∧ Drew w' wr) (fun i _ => n - (RowKit.intOf i).toNat)
          case atStart => exact ⟨0, Nat.zero_le _, rfl, Drew.refl _⟩
          case round =>
            obtain ⟨k, hk, rfl, hw⟩ := hrel
            have HW := hide hw
            clear hw
            by_cases hlt : k < n
            · have hlt' : (k : Int) < (n : Int) := by omega
              have r0 : wr.cell? ⟨ab, k, none⟩ = some (.pointer (some ⟨w2.heap.size + 1 + k, 0, none⟩)) := (unhide HW).cell.trans ((unhide Hrow) k hlt)
              have c0 : wr.cell? ⟨w2.heap.size, k, none⟩ = some (.pointer (some ⟨w2.heap.size + 1 + k, 0, none⟩)) := (unhide HW).cell.trans ((unhide HA6) k hlt)
              generalize w2.heap.size + 1 + k = p0 at r0 c0
              have hpe := neq49_same
              go_wp2_with fail
              go_quiet (fail)
              clear hpe r0 c0
              go_wp2
              go_roundw
              case rel => exact ⟨k + 1, by omega, by go_num, (unhide HW).drewN _⟩
              case measure => simp [RowKit.intOf]; omega
            · have hlt' : ¬ (k : Int) < (n : Int) := by omega
              go_wp2_with fail
              go_loopw [15] (fun i wr => ∃ k : Nat, k ≤ n ∧ i = .int .i64 k ∧ Drew w' wr) (fun i _ => n - (RowKit.intOf i).toNat)
              case atStart => exact ⟨0, Nat.zero_le _, rfl, unhide HW⟩
              case round =>
                clear HW hk hlt hlt'
                obtain ⟨k, hk, rfl, hw⟩ := hrel
                have HW := hide hw
                clear hw
                by_cases hlt : k < n
                · have hlt' : (k : Int) < (n : Int) := by omega
                  obtain ⟨b, off, rfl, hc⟩ := (unhide HW).row (unhide HS) (unhide Hb6) k hlt
                  have Hs : Hid ((S k).size ≤ 1048576) := (unhide HS20) k hlt
                  have Hnk : Hid (¬ Same (S k) q) := (unhide Hno) k hlt
                  generalize S k = s at hc Hs Hnk
                  go_wp2_with fail
                  refine (foldVerdict_any s q wr (unhide Hs) hq20).mono ?_
                  rintro e wv ⟨⟨v, rfl, h1, -⟩, hd⟩
                  have v1 : (v == 1) = false := beq_eq_false_iff_ne.2 (fun h => (unhide Hnk) (h1 h))
                  have HWv := hide ((unhide HW).trans hd)
                  clear h1 hd HW
                  go_wp2
                  go_roundw
                  case rel => exact ⟨k + 1, by omega, by go_num, unhide HWv⟩
                  case measure => simp [RowKit.intOf]; omega
                · have hlt' : ¬ (k : Int) < (n : Int) := by omega
                  go_wp2
                  go_ret
                  exact ⟨rfl, (unhide HW).below (unhide Hb6)⟩
        · have Hno := hide hno
          have Hnd := hide hnd
          have he6 := hE6.edit
          have hs6 := hE6.slice
          have hn6 := hE6.name
          have Hrow := hide hE6.cols.row
          have HA6 := hide ((unhide HA5).but hB6 (unhide Hle).1 (unhide Hle).2)
          have HK6 := hide ((unhide HK5).but hB6 (unhide Hle).1 (unhide Hle).2)
          have Hb6 := hide hE6.below
          clear hno hnd hE6 hB6 HE5 HA5 HK5 HF5
          obtain ⟨N, hN⟩ : ∃ N, n - 1 = N := ⟨_, rfl⟩
          rw [hN] at hs6 Hrow
          have hnN : n = N + 1 := by omega
          have q4 : (n : Int) - 1 = (N : Int) := by omega
          have q5 : ((N : Int) != (N : Int)) = false := by simp
          have q6 : ((n : Int) == 0) = false := beq_eq_false_iff_ne.2 (by omega)
          have hiN : i ≤ N := by omega
          have hNn : N < n := by omega
          clear hN
          have HnN := hide hnN
          clear hnN
          have hpe := neq27_same
          go_wp2_with (go_at_call 11; refine (editTable_any eb tb _ he6).mono ?_; rintro e w' ⟨rfl, rfl⟩)
          clear hpe
          go_loopw [16, 17] (fun d x wr => ∃ k : Nat, k ≤ i ∧ x = .int .i64 k ∧ d = .int .i64 N ∧ Drew w' wr) (fun _ x _ => N + 1 - (RowKit.intOf x).toNat)
          case atStart => exact ⟨0, Nat.zero_le _, rfl, rfl, Drew.refl _⟩
          case round =>
            obtain ⟨k, hk, rfl, rfl, hw⟩ := hrel
            have HW := hide hw
            clear hw
            by_cases hki : k < i
            · have hlt' : (k : Int) < (N : Int) := by omega
              have hltn : (k : Int) < (n : Int) := by omega
              have hltn' : k < n := by omega
              have hltN' : k < N := by omega
              have r0 : wr.cell? ⟨ab, k, none⟩ = some (.pointer (some ⟨w2.heap.size + 1 + k, 0, none⟩)) := by
                refine (unhide HW).cell.trans (((unhide Hrow) k (by omega)).trans ?_)
                rw [show del (fun j => w2.heap.size + 1 + j) i k = w2.heap.size + 1 + k from if_pos hki]
              have c0 : wr.cell? ⟨w2.heap.size, k, none⟩ = some (.pointer (some ⟨w2.heap.size + 1 + k, 0, none⟩)) := (unhide HW).cell.trans ((unhide HA6) k (by omega))
              generalize w2.heap.size + 1 + k = p0 at r0 c0
              have hpe := neq49_same
              go_wp2_with fail
              go_quiet (fail)
              clear hpe r0 c0
              go_wp2
              go_roundw
              case rel => exact ⟨k + 1, by omega, by go_num, rfl, (unhide HW).drewN _⟩
              case measure => simp [RowKit.intOf]; omega
            · obtain rfl : i = k := by omega
              by_cases hiN2 : i < N
              · have hlt' : (i : Int) < (N : Int) := by omega
                have hltn : (i : Int) < (n : Int) := by omega
                have hltn' : i < n := by omega
                have r0 : wr.cell? ⟨ab, i, none⟩ = some (.pointer (some ⟨w2.heap.size + 1 + (i + 1), 0, none⟩)) := by
                  refine (unhide HW).cell.trans (((unhide Hrow) i (by omega)).trans ?_)
                  rw [show del (fun j => w2.heap.size + 1 + j) i i = w2.heap.size + 1 + (i + 1) from if_neg (by omega)]
                have c0 : wr.cell? ⟨w2.heap.size, i, none⟩ = some (.pointer (some ⟨w2.heap.size + 1 + i, 0, none⟩)) := (unhide HW).cell.trans ((unhide HA6) i (by omega))
                have hpe : ∀ wx : World, wx.heap = wr.heap → (binOp .neq 49 (.pointer (some ⟨w2.heap.size + 1 + (i + 1), 0, none⟩)) (.pointer (some ⟨w2.heap.size + 1 + i, 0, none⟩))).run Tryf.prog wx = .ok (.bool true) wx := by
                  intro wx hx
                  obtain ⟨c1, t1, b1⟩ := (unhide HK6) (i + 1) (by omega)
                  obtain ⟨c2, t2, b2⟩ := (unhide HK6) i (by omega)
                  refine neq49_other (ca := c1) (ta := t1) (cb := c2) (tb := t2) wx (by simp) ?_ ?_
                  · rw [hx, (unhide HW).heap]; exact b1
                  · rw [hx, (unhide HW).heap]; exact b2
                have hpe1 := hpe wr rfl
                have hpe2 := fun z => hpe (wr.drewN z) rfl
                clear hpe
                generalize w2.heap.size + 1 + (i + 1) = p1 at r0 hpe1 hpe2
                generalize w2.heap.size + 1 + i = p0 at c0 hpe1 hpe2
                go_wp2_with fail
                go_quiet (fail)
                clear hpe1 hpe2 r0 c0
                go_wp2_with fail
                go_loopw [18] (fun x wr => ∃ k : Nat, i ≤ k ∧ k ≤ N ∧ x = .int .i64 k ∧ Drew w' wr) (fun x _ => N - (RowKit.intOf x).toNat)
                case atStart => exact ⟨i, Nat.le_refl _, by omega, rfl, (unhide HW).drewN _⟩
                case round =>
                  clear HW
                  obtain ⟨k, hik, hk, rfl, hw⟩ := hrel
                  have HW := hide hw
                  clear hw
                  by_cases hlt : k < N
                  · have hlt' : (k : Int) < (N : Int) := by omega
                    have r0 : wr.cell? ⟨ab, k, none⟩ = some (.pointer (some ⟨w2.heap.size + 1 + (k + 1), 0, none⟩)) := by
                      refine (unhide HW).cell.trans (((unhide Hrow) k hlt).trans ?_)
                      rw [show del (fun j => w2.heap.size + 1 + j) i k = w2.heap.size + 1 + (k + 1) from if_neg (by omega)]
                    have c0 : wr.cell? ⟨w2.heap.size, k + 1, none⟩ = some (.pointer (some ⟨w2.heap.size + 1 + (k + 1), 0, none⟩)) := (unhide HW).cell.trans ((unhide HA6) (k + 1) (by omega))
                    generalize w2.heap.size + 1 + (k + 1) = p0 at r0 c0
                    obtain ⟨K1, hK1⟩ : ∃ K1, k + 1 = K1 := ⟨_, rfl⟩
                    rw [hK1] at c0
                    have wk : IntKind.i64.wrap ((k : Int) + 1) = (K1 : Int) := by rw [IntKind.wrap_i64]; omega
                    have q7 : (K1 : Int) < (n : Int) := by omega
                    have q8 : K1 < n := by omega
                    clear hK1
                    have hpe := neq49_same
                    go_wp2_with fail
                    go_quiet (fail)
                    clear hpe r0 c0 wk q7 q8
                    go_wp2
                    go_roundw
                    case rel => exact ⟨k + 1, by omega, by omega, by go_num, (unhide HW).drewN _⟩
                    case measure => simp [RowKit.intOf]; omega
                  · have hlt' : ¬ (k : Int) < (N : Int) := by omega
                    obtain ⟨b, off, rfl, hc⟩ := (unhide HW).row (unhide HS) (unhide Hb6) i (by omega)
                    have Hs : Hid ((S i).size ≤ 1048576) := (unhide HS20) i (by omega)
                    have hin : (i : Int) < (n : Int) := by omega
                    have hin' : i < n := by omega
                    generalize S i = s at hc Hs Hnd
                    go_wp2_with fail
                    refine (foldVerdict_any s q wr (unhide Hs) hq20).mono ?_
                    rintro e wv ⟨⟨v, rfl, -, h0⟩, hd⟩
                    have v0 : (v == 0) = false := beq_eq_false_iff_ne.2 (fun h => (unhide Hnd) (h0 h))
                    have HWv := hide ((unhide HW).trans hd)
                    clear h0 hd HW hc hlt hlt' hk hik
                    go_wp2_with fail
                    go_loopw [19] (fun x wr => ∃ k : Nat, k ≤ i ∧ x = .int .i64 k ∧ Drew w' wr) (fun x _ => i - (RowKit.intOf x).toNat)
                    case atStart => exact ⟨0, Nat.zero_le _, rfl, unhide HWv⟩
                    case round =>
                      clear HWv v0
                      obtain ⟨k, hk, rfl, hw⟩ := hrel
                      have HW := hide hw
                      clear hw
                      by_cases hlt : k < i
                      · have hlt' : (k : Int) < (i : Int) := by omega
                        have hkn : (k : Int) < (n : Int) := by omega
                        have hkn' : k < n := by omega
                        obtain ⟨b2, off2, heq, hc⟩ := (unhide HW).row (unhide HS) (unhide Hb6) k (by omega)
                        simp only [Option.some.injEq, Addr.mk.injEq, and_true] at heq
                        obtain ⟨rfl, rfl⟩ := heq
                        have Hs : Hid ((S k).size ≤ 1048576) := (unhide HS20) k (by omega)
                        have Hnk : Hid (¬ Same (S k) q) := (unhide Hno) k hlt
                        generalize S k = sk at hc Hs Hnk
                        go_wp2_with fail
                        refine (foldVerdict_any sk q wr (unhide Hs) hq20).mono ?_
                        rintro e wz ⟨⟨v2, rfl, h1, -⟩, hd⟩
                        have v1 : (v2 == 1) = false := beq_eq_false_iff_ne.2 (fun h => (unhide Hnk) (h1 h))
                        have HWz := hide ((unhide HW).trans hd)
                        clear h1 hd HW
                        go_wp2
                        go_roundw
                        case rel => exact ⟨k + 1, by omega, by go_num, unhide HWz⟩
                        case measure => simp [RowKit.intOf]; omega
                      · have hlt' : ¬ (k : Int) < (i : Int) := by omega
                        go_wp2
                        go_ret
                        exact ⟨rfl, (unhide HW).below (unhide Hb6)⟩
              · obtain rfl : i = N := by omega
                have hlt' : ¬ (i : Int) < (i : Int) := by omega
                go_wp2_with fail
                go_loopw [18] (fun x wr => ∃ k : Nat, i ≤ k ∧ k ≤ i ∧ x = .int .i64 k ∧ Drew w' wr) (fun x _ => i - (RowKit.intOf x).toNat)
                case atStart => exact ⟨i, Nat.le_refl _, by omega, rfl, unhide HW⟩
                case round =>
                  clear HW
                  obtain ⟨k, hik, hk, rfl, hw⟩ := hrel
                  have HW := hide hw
                  clear hw
                  by_cases hlt : k < i
                  · have hlt' : (k : Int) < (i : Int) := by omega
                    have r0 : wr.cell? ⟨ab, k, none⟩ = some (.pointer (some ⟨w2.heap.size + 1 + (k + 1), 0, none⟩)) := by
                      refine (unhide HW).cell.trans (((unhide Hrow) k hlt).trans ?_)
                      rw [show del (fun j => w2.heap.size + 1 + j) i k = w2.heap.size + 1 + (k + 1) from if_neg (by omega)]
                    have c0 : wr.cell? ⟨w2.heap.size, k + 1, none⟩ = some (.pointer (some ⟨w2.heap.size + 1 + (k + 1), 0, none⟩)) := (unhide HW).cell.trans ((unhide HA6) (k + 1) (by omega))
                    generalize w2.heap.size + 1 + (k + 1) = p0 at r0 c0
                    obtain ⟨K1, hK1⟩ : ∃ K1, k + 1 = K1 := ⟨_, rfl⟩
                    rw [hK1] at c0
                    have wk : IntKind.i64.wrap ((k : Int) + 1) = (K1 : Int) := by rw [IntKind.wrap_i64]; omega
                    have q7 : (K1 : Int) < (n : Int) := by omega
                    have q8 : K1 < n := by omega
                    clear hK1
                    have hpe := neq49_same
                    go_wp2_with fail
                    go_quiet (fail)
                    clear hpe r0 c0 wk q7 q8
                    go_wp2
                    go_roundw
                    case rel => exact ⟨k + 1, by omega, by omega, by go_num, (unhide HW).drewN _⟩
                    case measure => simp [RowKit.intOf]; omega
                  · have hlt' : ¬ (k : Int) < (i : Int) := by omega
                    obtain ⟨b, off, rfl, hc⟩ := (unhide HW).row (unhide HS) (unhide Hb6) i (by omega)
                    have Hs : Hid ((S i).size ≤ 1048576) := (unhide HS20) i (by omega)
                    have hin : (i : Int) < (n : Int) := by omega
                    have hin' : i < n := by omega
                    generalize S i = s at hc Hs Hnd
                    go_wp2_with fail
                    refine (foldVerdict_any s q wr (unhide Hs) hq20).mono ?_
                    rintro e wv ⟨⟨v, rfl, -, h0⟩, hd⟩
                    have v0 : (v == 0) = false := beq_eq_false_iff_ne.2 (fun h => (unhide Hnd) (h0 h))
                    have HWv := hide ((unhide HW).trans hd)
                    clear h0 hd HW hc hlt hlt' hk hik
                    go_wp2_with fail
                    go_loopw [19] (fun x wr => ∃ k : Nat, k ≤ i ∧ x = .int .i64 k ∧ Drew w' wr) (fun x _ => i - (RowKit.intOf x).toNat)
                    case atStart => exact ⟨0, Nat.zero_le _, rfl, unhide HWv⟩
                    case round =>
                      clear HWv v0
                      obtain ⟨k, hk, rfl, hw⟩ := hrel
                      have HW := hide hw
                      clear hw
                      by_cases hlt : k < i
                      · have hlt' : (k : Int) < (i : Int) := by omega
                        have hkn : (k : Int) < (n : Int) := by omega
                        have hkn' : k < n := by omega
                        obtain ⟨b2, off2, heq, hc⟩ := (unhide HW).row (unhide HS) (unhide Hb6) k (by omega)
                        simp only [Option.some.injEq, Addr.mk.injEq, and_true] at heq
                        obtain ⟨rfl, rfl⟩ := heq
                        have Hs : Hid ((S k).size ≤ 1048576) := (unhide HS20) k (by omega)
                        have Hnk : Hid (¬ Same (S k) q) := (unhide Hno) k hlt
                        generalize S k = sk at hc Hs Hnk
                        go_wp2_with fail
                        refine (foldVerdict_any sk q wr (unhide Hs) hq20).mono ?_
                        rintro e wz ⟨⟨v2, rfl, h1, -⟩, hd⟩
                        have v1 : (v2 == 1) = false := beq_eq_false_iff_ne.2 (fun h => (unhide Hnk) (h1 h))
                        have HWz := hide ((unhide HW).trans hd)
                        clear h1 hd HW
                        go_wp2
                        go_roundw
                        case rel => exact ⟨k + 1, by omega, by go_num, unhide HWz⟩
                        case measure => simp [RowKit.intOf]; omega
                      · have hlt' : ¬ (k : Int) < (i : Int) := by omega
                        go_wp2
                        go_ret
                        exact ⟨rfl, (unhide HW).below (unhide Hb6)⟩
end Go.Proofs.Qxb6604493aFmt
