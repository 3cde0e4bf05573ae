/-
  (*Table).column: the first column whose name EqualFold takes for the name asked.
-/
import Derived.Test.Qxb6604493aFmtEqual
import Derived.Deep.RegionWith
namespace Go.Proofs.Qxb6604493aFmt
open Go.RowKit Go.Lib

theorem FoldTabs.drew {w : World} (h : FoldTabs w) : FoldTabs w.drew := ⟨h.asc, h.orb, h.cas⟩

theorem EqPost.of_drew {s t : ByteArray} {w w' : World} {e : Ending} (h : EqPost s t w.drew e w') : EqPost s t w e w' :=
  ⟨h.1, ⟨h.2.os, h.2.tape, h.2.output, h.2.size, h.2.block⟩⟩

set_option maxRecDepth 100000 in
set_option maxHeartbeats 1000000 in
theorem pred_any (cb nb : Nat) (s q : ByteArray) (w : World) (hs : s.size ≤ 1048576) (hq : q.size ≤ 1048576) (hT : FoldTabs w) (hU : Utf8Tabs 3 4 w)
    (hc : w.cell? ⟨cb, 0, none⟩ = some (.string s)) (hn : w.cell? ⟨nb, 0, none⟩ = some (.string q)) :
    Calls Tryf.prog 22 #[.pointer (some ⟨cb, 0, none⟩), .pointer (some ⟨nb, 0, none⟩)] w fun e w' => EqPost s q w e w' := by
  have HT := hide hT
  have HU := hide hU
  clear hT hU
  go_enter Tryf.func22, Tryf.ntmps22
  go_wp2
  go_region_with (go_at_call 23; refine (equalFold_any s q _ hs hq ?_ ?_).mono ?_; exact FoldTabs.drew (unhide HT); exact unhide HU; rintro e w1 ⟨⟨b, rfl, h1, h2⟩, hb⟩; have H1 := hide h1; have H2 := hide h2; have Hb := hide hb; clear h1 h2 hb)
  all_goals (go_wp2; go_ret; exact ⟨⟨b, rfl, unhide H1, unhide H2⟩, EqPost.of_drew ⟨⟨b, rfl, unhide H1, unhide H2⟩, unhide Hb⟩ |>.2⟩)

/-- n columns: the row of pointers at block ab, the columns' names S 0 .. S (n-1). -/
structure Cols (w : World) (ab n : Nat) (A : Nat → Nat) (S : Nat → ByteArray) : Prop where
  row : ∀ j, j < n → w.cell? ⟨ab, j, none⟩ = some (.pointer (some ⟨A j, 0, none⟩))
  name : ∀ j, j < n → w.cell? ⟨A j, 0, none⟩ = some (.string (S j))
  size : ∀ j, j < n → (S j).size ≤ 1048576

theorem Cols.below {w wr : World} {ab n : Nat} {A : Nat → Nat} {S : Nat → ByteArray} (h : Cols w ab n A S) (hb : Below w.heap.size w wr) : Cols wr ab n A S := by
  have lt : ∀ {a : Addr} {v : Value}, w.cell? a = some v → wr.cell? a = some v := fun {a v} hc => (hb.cell (World.block_lt_of_cell? _ _ hc)).trans hc
  exact ⟨fun j hj => lt (h.row j hj), fun j hj => lt (h.name j hj), h.size⟩

/-- What the search answers. -/
def IdxPost (n : Nat) (S : Nat → ByteArray) (q : ByteArray) (w : World) (e : Ending) (w' : World) : Prop :=
  (∃ r : Int, e = .returned (.int .i64 r) ∧ ((r = -1 ∧ ∀ j, j < n → ¬ Same (S j) q) ∨ (∃ i : Nat, i < n ∧ r = i ∧ ¬ Diff (S i) q ∧ ∀ j, j < i → ¬ Same (S j) q))) ∧ Below w.heap.size w w'

set_option maxRecDepth 100000 in
set_option maxHeartbeats 1000000 in
theorem indexFunc_any (ab n cap nb : Nat) (A : Nat → Nat) (S : Nat → ByteArray) (q : ByteArray) (w : World) (hn : n ≤ 1048576) (hq : q.size ≤ 1048576) (hT : FoldTabs w) (hU : Utf8Tabs 3 4 w)
    (hC : Cols w ab n A S) (hnb : w.cell? ⟨nb, 0, none⟩ = some (.string q)) :
    Calls Tryf.prog 21 #[.slice (some ⟨ab, 0, none⟩) n cap, .func (.func 22) #[] #[.pointer (some ⟨nb, 0, none⟩)]] w fun e w' => IdxPost n S q w e w' := by
  have HT := hide hT
  have HU := hide hU
  have HC := hide hC
  have Hnb := hide hnb
  clear hT hU hC hnb
  go_enter Tryf.func21, Tryf.ntmps21
  go_wp2
  go_loopw [8] (fun i wr => ∃ k : Nat, k ≤ n ∧ i = .int .i64 k ∧ Below w.heap.size w wr ∧ ∀ j, j < k → ¬ Same (S j) q) (fun i _ => n - (RowKit.intOf i).toNat)
  case atStart => exact ⟨0, Nat.zero_le _, rfl, Below.refl _ _, fun j hj => by omega⟩
  case round =>
    obtain ⟨k, hk, rfl, hb, hall⟩ := hrel
    have HA := hide hall
    have Hb := hide hb
    by_cases hlt : k < n
    · have hlt' : (k : Int) < (n : Int) := by omega
      have hC2 := (unhide HC).below hb
      have hr := hC2.row k hlt
      have Hnm := hide (hC2.name k hlt)
      have Hsz := hide (hC2.size k hlt)
      obtain ⟨p, hp⟩ : ∃ p, A k = p := ⟨_, rfl⟩
      rw [hp] at hr Hnm
      have Hnb2 : Hid (wr.cell? ⟨nb, 0, none⟩ = some (.string q)) := (hb.cell (World.block_lt_of_cell? _ _ (unhide Hnb))).trans (unhide Hnb)
      have HT2 := hide ((unhide HT).below hb)
      have HU2 := hide (Utf8Tabs_below (unhide HU) hb)
      clear hall hC2 hp hb
      go_wp2_with fail
      refine (pred_any p nb (S k) q wr (unhide Hsz) hq (unhide HT2) (unhide HU2) (unhide Hnm) (unhide Hnb2)).mono ?_
      rintro e w1 ⟨⟨b, rfl, h1, h2⟩, hb1⟩
      have H1 := hide h1
      have H2 := hide h2
      have Hb1 : Hid (Below w.heap.size w w1) := (unhide Hb).trans (hb1.mono (unhide Hb).size)
      clear h1 h2 hb1
      cases b with
      | true =>
        go_wp2
        go_ret
        exact ⟨⟨k, rfl, Or.inr ⟨k, hlt, rfl, fun h => absurd ((unhide H2) h) (by simp), unhide HA⟩⟩, unhide Hb1⟩
      | false =>
        go_wp2
        go_roundw
        case rel =>
          refine ⟨k + 1, by omega, by go_num, unhide Hb1, fun j hj => ?_⟩
          by_cases e : j = k
          · subst e; exact fun h => absurd ((unhide H1) h) (by simp)
          · exact (unhide HA) j (by omega)
        case measure => simp [RowKit.intOf]; omega
    · clear hall hb
      go_wp2
      go_ret
      exact ⟨⟨-1, rfl, Or.inl ⟨rfl, fun j hj => (unhide HA) j (by omega)⟩⟩, unhide Hb⟩

set_option maxRecDepth 100000 in
set_option maxHeartbeats 1000000 in
theorem column_any (tb ab n cap : Nat) (A : Nat → Nat) (S : Nat → ByteArray) (q : ByteArray) (w : World) (hn : n ≤ 1048576) (hq : q.size ≤ 1048576) (hT : FoldTabs w) (hU : Utf8Tabs 3 4 w)
    (hC : Cols w ab n A S) (htb : w.cell? ⟨tb, 1, none⟩ = some (.slice (some ⟨ab, 0, none⟩) n cap)) :
    Calls Tryf.prog 17 #[.pointer (some ⟨tb, 0, none⟩), .string q] w fun e w' => IdxPost n S q w e w' := by
  have hb : Below w.heap.size w (w.alloc (.cells #[.string q] 9)) := (Below.refl _ _).alloc (Nat.le_refl _) _
  have HT := hide (hT.below hb)
  have HU := hide (Utf8Tabs_below hU hb)
  have HC := hide (hC.below hb)
  have hlt : tb < w.heap.size := World.block_lt_of_cell? _ _ htb
  clear hT hU hC hb
  go_enter Tryf.func17, Tryf.ntmps17
  go_wp2_with fail
  refine (indexFunc_any ab n cap w.heap.size A S q _ hn hq (unhide HT) (unhide HU) (unhide HC) (by simp)).mono ?_
  rintro e w1 ⟨⟨r, rfl, hr⟩, hb1⟩
  have Hr := hide hr
  have Hb1 : Hid (Below w.heap.size w w1) := ((Below.refl _ _).alloc (Nat.le_refl _) _).trans (hb1.mono (by simp))
  clear hr hb1
  go_wp2
  go_ret
  exact ⟨⟨r, rfl, unhide Hr⟩, unhide Hb1⟩
end Go.Proofs.Qxb6604493aFmt
