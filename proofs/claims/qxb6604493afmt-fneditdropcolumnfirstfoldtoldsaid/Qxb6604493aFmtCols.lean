import Derived.Test.Qxb6604493aFmtSizes
namespace Go.Proofs.Qxb6604493aFmt
open Go.RowKit

theorem Tryf.info49 : (Tryf.prog.info? 49).map (fun i => (i.zero, i.size, i.bytes)) = some (some (.pointer none), 1, 8) := by kernel_rfl

/-- Behind k rounds of makeColumns: the row of pointers at block B, the columns in the k blocks behind it. -/
structure ColsAt (w : World) (n : Nat) (S : Nat → ByteArray) (k : Nat) (wr : World) : Prop where
  size : wr.heap.size = w.heap.size + 1 + k
  below : Below w.heap.size w wr
  row : ∀ j, j < n → wr.cell? ⟨w.heap.size, j, none⟩ = some (if j < k then .pointer (some ⟨w.heap.size + 1 + j, 0, none⟩) else .pointer none)
  froz : ∀ j, j < n → wr.frozen? ⟨w.heap.size, j, none⟩ = false
  names : ∀ j, j < k → wr.cell? ⟨w.heap.size + 1 + j, 0, none⟩ = some (.string (S j))
  blk : ∀ j, j < k → ∃ c t, wr.heap[w.heap.size + 1 + j]? = some (.cells c t (0, 0))

theorem colsAt_start (w : World) (n : Nat) (S : Nat → ByteArray) : ColsAt w n S 0 (w.alloc (.cells (madeCells #[.pointer none] n) 49)) := by
  refine ⟨by simp, (Below.refl _ _).alloc (Nat.le_refl _) _, fun j hj => ?_, fun j hj => ?_, fun j hj => by omega, fun j hj => by omega⟩
  · rw [World.cell?_alloc_new]
    simp [madeCells, hj, Nat.mod_one]
  · simp

theorem colsAt_step {w : World} {n : Nat} {S : Nat → ByteArray} {k : Nat} {wr : World} (h : ColsAt w n S k wr) (hk : k < n) (s : ByteArray) (hs : s = S k) (rest : List Value) (t : TypeId) :
    ColsAt w n S (k + 1) ((wr.setCell ⟨w.heap.size, k, none⟩ (.pointer (some ⟨wr.heap.size, 0, none⟩))).alloc (.cells (⟨.string s :: rest⟩ : Array Value) t)) := by
  have hsz := h.size
  refine ⟨by simp; omega, (h.below.setCell (Nat.le_refl _) _).alloc (by simp; omega) _, fun j hj => ?_, fun j hj => ?_, fun j hj => ?_, fun j hj => ?_⟩
  · rw [World.cell?_alloc_old _ _ _ (by simp; omega)]
    by_cases e : j = k
    · subst e
      rw [World.cell?_setCell_same _ _ _ (h.row j hj), if_pos (by omega), hsz]
    · rw [World.cell?_setCell_other _ _ _ _ (by intro e'; injection e' with _ e2; omega), h.row j hj]
      by_cases hjk : j < k
      · rw [if_pos hjk, if_pos (by omega)]
      · rw [if_neg hjk, if_neg (by omega)]
  · rw [World.frozen?_alloc_old _ _ _ (by simp; omega), World.frozen?_setCell]
    exact h.froz j hj
  · by_cases e : j = k
    · subst e
      have e2 : (⟨w.heap.size + 1 + j, 0, none⟩ : Addr) = ⟨(wr.setCell ⟨w.heap.size, j, none⟩ (.pointer (some ⟨wr.heap.size, 0, none⟩))).heap.size, 0, none⟩ := by simp; omega
      rw [e2, World.cell?_alloc_new, hs]
      rfl
    · rw [World.cell?_alloc_old _ _ _ (by simp; omega), World.cell?_setCell_other _ _ _ _ (by intro e'; injection e' with e1; omega)]
      exact h.names j (by omega)
  · by_cases e : j = k
    · subst e
      refine ⟨(⟨.string s :: rest⟩ : Array Value), t, ?_⟩
      show (Array.push _ _)[_]? = _
      rw [Array.getElem?_push, if_pos (by simp; omega)]
    · obtain ⟨c, t', hb⟩ := h.blk j (by omega)
      refine ⟨c, t', ?_⟩
      rw [Below.heap_alloc _ _ _ (by simp; omega), Below.heap_setCell _ _ _ _ (by show _ ≠ w.heap.size; omega)]
      exact hb

set_option maxHeartbeats 400000 in
theorem makeColumns_any (a : Option Addr) (n c : Nat) (S : Nat → ByteArray) (w : World) (hn : n ≤ 1048576) (hS : StrRow w a n S) :
    Calls Tryf.prog 7 #[.slice a n c] w fun e w' => e = .returned (.slice (some ⟨w.heap.size, 0, none⟩) n n) ∧ ColsAt w n S n w' := by
  obtain ⟨i0, hi, hz0, hz1, hz2⟩ := info_parts Tryf.info49
  have hmk := run_make (P := Tryf.prog) w 25 49 i0 (.pointer none) Tryf.underlying25 hi hz0 .i64 .i64 n n (by omega) (by omega) (by rw [hz2]; omega) (by omega)
  rw [hz1] at hmk
  go_enter Tryf.func7, Tryf.ntmps7
  go_wp2
  clear hmk hi hz0 hz1 hz2 i0
  go_loopw [4] (fun i wr => ∃ k : Nat, k ≤ n ∧ i = .int .i64 k ∧ ColsAt w n S k wr) (fun i _ => n - (intOf i).toNat)
  case atStart => exact ⟨0, Nat.zero_le _, rfl, colsAt_start w n S⟩
  case round =>
    obtain ⟨k, hk, rfl, hC⟩ := hrel
    by_cases hlt : k < n
    · obtain ⟨b, off, rfl, hc⟩ := hS k hlt
      have hlt' : (k : Int) < (n : Int) := by omega
      obtain ⟨s, hs⟩ : ∃ s, s = S k := ⟨_, rfl⟩
      rw [← hs] at hc
      have hb : b < w.heap.size := World.block_lt_of_cell? _ _ hc
      have hc' : wr.cell? ⟨b, off + k, none⟩ = some (.string s) := (hC.below.cell hb).trans hc
      have hr := hC.row k hlt
      rw [if_neg (by omega)] at hr
      have hf := hC.froz k hlt
      have HC := hide hC
      have HS := hide hs
      have hbr : b < wr.heap.size := by have := hC.size; omega
      have hBr : w.heap.size < wr.heap.size := by have := hC.size; omega
      clear hS hc hC hs hb
      go_wp2
      go_roundw
      case rel => exact ⟨k + 1, by omega, by go_num, colsAt_step (unhide HC) hlt s (unhide HS) _ _⟩
      case measure => simp [intOf]; omega
    · have e : k = n := by omega
      subst e
      clear hS
      go_wp2
      go_ret
      exact ⟨rfl, hC⟩

/-- Behind k rounds of copyColumns: the new row at block w.heap.size. -/
structure CopyAt (w : World) (n : Nat) (A : Nat → Addr) (k : Nat) (wr : World) : Prop where
  size : wr.heap.size = w.heap.size + 1
  below : Below w.heap.size w wr
  row : ∀ j, j < n → wr.cell? ⟨w.heap.size, j, none⟩ = some (if j < k then .pointer (some (A j)) else .pointer none)
  froz : ∀ j, j < n → wr.frozen? ⟨w.heap.size, j, none⟩ = false

theorem copyAt_start (w : World) (n : Nat) (A : Nat → Addr) : CopyAt w n A 0 (w.alloc (.cells (madeCells #[.pointer none] n) 49)) := by
  refine ⟨by simp, (Below.refl _ _).alloc (Nat.le_refl _) _, fun j hj => ?_, fun j hj => ?_⟩
  · rw [World.cell?_alloc_new]
    simp [madeCells, hj, Nat.mod_one]
  · simp

theorem copyAt_step {w : World} {n : Nat} {A : Nat → Addr} {k : Nat} {wr : World} (h : CopyAt w n A k wr) (hk : k < n) (p : Addr) (hp : p = A k) :
    CopyAt w n A (k + 1) (wr.setCell ⟨w.heap.size, k, none⟩ (.pointer (some p))) := by
  have hsz := h.size
  refine ⟨by simp; omega, h.below.setCell (Nat.le_refl _) _, fun j hj => ?_, fun j hj => ?_⟩
  · by_cases e : j = k
    · subst e
      rw [World.cell?_setCell_same _ _ _ (h.row j hj), if_pos (by omega), hp]
    · rw [World.cell?_setCell_other _ _ _ _ (by intro e'; injection e' with _ e2; omega), h.row j hj]
      by_cases hjk : j < k
      · rw [if_pos hjk, if_pos (by omega)]
      · rw [if_neg hjk, if_neg (by omega)]
  · rw [World.frozen?_setCell]
    exact h.froz j hj

set_option maxHeartbeats 400000 in
theorem copyColumns_any (b n c : Nat) (A : Nat → Addr) (w : World) (hn : n ≤ 1048576) (hbw : b < w.heap.size) (hA : ∀ j, j < n → w.cell? ⟨b, j, none⟩ = some (.pointer (some (A j)))) :
    Calls Tryf.prog 8 #[.slice (some ⟨b, 0, none⟩) n c] w fun e w' => e = .returned (.slice (some ⟨w.heap.size, 0, none⟩) n n) ∧ CopyAt w n A n w' := by
  obtain ⟨i0, hi, hz0, hz1, hz2⟩ := info_parts Tryf.info49
  have hmk := run_make (P := Tryf.prog) w 25 49 i0 (.pointer none) Tryf.underlying25 hi hz0 .i64 .i64 n n (by omega) (by omega) (by rw [hz2]; omega) (by omega)
  rw [hz1] at hmk
  go_enter Tryf.func8, Tryf.ntmps8
  go_wp2
  clear hmk hi hz0 hz1 hz2 i0
  go_loopw [4] (fun i wr => ∃ k : Nat, k ≤ n ∧ i = .int .i64 k ∧ CopyAt w n A k wr) (fun i _ => n - (intOf i).toNat)
  case atStart => exact ⟨0, Nat.zero_le _, rfl, copyAt_start w n A⟩
  case round =>
    obtain ⟨k, hk, rfl, hC⟩ := hrel
    by_cases hlt : k < n
    · have hc := hA k hlt
      have hlt' : (k : Int) < (n : Int) := by omega
      obtain ⟨p, hp⟩ : ∃ p, p = A k := ⟨_, rfl⟩
      rw [← hp] at hc
      have hc' : wr.cell? ⟨b, k, none⟩ = some (.pointer (some p)) := (hC.below.cell hbw).trans hc
      have hr := hC.row k hlt
      rw [if_neg (by omega)] at hr
      have hf := hC.froz k hlt
      have HC := hide hC
      have HP := hide hp
      clear hA hc hC hp
      go_wp2
      go_roundw
      case rel => exact ⟨k + 1, by omega, by go_num, copyAt_step (unhide HC) hlt p (unhide HP)⟩
      case measure => simp [intOf]; omega
    · have e : k = n := by omega
      subst e
      clear hA
      go_wp2
      go_ret
      exact ⟨rfl, hC⟩
end Go.Proofs.Qxb6604493aFmt
