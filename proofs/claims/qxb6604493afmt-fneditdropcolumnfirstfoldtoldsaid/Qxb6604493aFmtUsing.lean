/-
  recheckForeignKeys over a table without foreign keys: it folds the name, finds an empty tree, and comes back.
-/
import Derived.Test.Qxb6604493aFmtFold
import Derived.Deep.RegionWith
import Derived.LoopN
namespace Go.Proofs.Qxb6604493aFmt
open Go.RowKit Go.Lib

theorem below_of_drew {B : Nat} {W W1 : World} (h : Below B W.drew W1) : Below B W W1 := ⟨h.os, h.tape, h.output, h.size, h.block⟩

def TruePost (w : World) (e : Ending) (w' : World) : Prop := e = .returned (.bool true) ∧ Below w.heap.size w w'

set_option maxRecDepth 100000 in
set_option maxHeartbeats 1000000 in
theorem ascend_nil (s : ByteArray) (z : Int) (f : Value) (w : World) :
    Calls Tryf.prog 32 #[.pointer none, .agg #[.string s, .int .u64 z], f] w fun e w' => TruePost w e w' := by
  go_enter Tryf.func32, Tryf.ntmps32
  go_wp2
  refine wp_loop_rounds 1 ?_
  rw [rounds_succ]
  go_wp2
  go_ret
  exact ⟨rfl, (Below.refl _ _).alloc (Nat.le_refl _) _⟩

def VoidPost (w : World) (e : Ending) (w' : World) : Prop := e = .returned (.tuple #[]) ∧ Below w.heap.size w w'

set_option maxRecDepth 100000 in
set_option maxHeartbeats 1000000 in
theorem using_nil (cb off : Nat) (q : ByteArray) (f : Fn) (a1 a2 : Array Value) (w : World) (hq : q.size ≤ 1048576) (hT : FoldTabs w) (hc : w.cell? ⟨cb, off + 2, none⟩ = some (.pointer none)) :
    Calls Tryf.prog 25 #[.pointer (some ⟨cb, off, none⟩), .string q, .func f a1 a2] w fun e w' => VoidPost w e w' := by
  have hb : Below w.heap.size w ((w.alloc (.cells #[.string q] 9)).alloc (.cells #[.func f a1 a2] 75)) := ((Below.refl _ _).alloc (Nat.le_refl _) _).alloc (by simp) _
  have HT := hide (hT.below hb)
  clear hT
  go_enter Tryf.func25, Tryf.ntmps25
  go_wp2_with fail
  refine (fold_any q _ hq (unhide HT)).mono ?_
  rintro e w1 ⟨⟨s, rfl⟩, hb1⟩
  have hlt : cb < w.heap.size := World.block_lt_of_cell? _ _ hc
  have c0 : w1.cell? ⟨w.heap.size, 0, none⟩ = some (.string q) := by
    rw [hb1.cell (by simp; omega), World.cell?_alloc_lt _ _ _ (by simp), World.cell?_alloc_new]
    rfl
  have f0 : w1.frozen? ⟨w.heap.size, 0, none⟩ = false := by
    rw [hb1.frozen (by simp; omega), World.frozen?_alloc_old _ _ _ (by simp), World.frozen?_alloc_new]
  have c1 : w1.cell? ⟨cb, off + 2, none⟩ = some (.pointer none) := by
    rw [hb1.cell (by simp; omega), hb.cell hlt]
    exact hc
  have hz : w.heap.size + 2 ≤ w1.heap.size := by have := hb1.size; simp at this; omega
  have Hb1 : Hid (Below w.heap.size w w1) := hb.trans (hb1.mono (by simp; omega))
  have hcb : cb ≠ w.heap.size := by omega
  have hlt2 : cb < w1.heap.size := by omega
  clear hb1 hb HT hc
  go_wp2
  have d0 : (w1.setCell ⟨w.heap.size, 0, none⟩ (.string s)).cell? ⟨w.heap.size, 0, none⟩ = some (.string s) := World.cell?_setCell_same _ _ _ c0
  have d1 : (w1.setCell ⟨w.heap.size, 0, none⟩ (.string s)).cell? ⟨cb, off + 2, none⟩ = some (.pointer none) := by
    rw [World.cell?_setCell_other _ _ _ _ (by intro e; injection e; omega)]
    exact c1
  have HbW : Hid (Below w.heap.size w (w1.setCell ⟨w.heap.size, 0, none⟩ (.string s))) := (unhide Hb1).setCell (Nat.le_refl _) _
  generalize w1.setCell ⟨w.heap.size, 0, none⟩ (.string s) = W at d0 d1 HbW ⊢
  clear c0 c1 f0 hz Hb1 hcb hlt2 hlt
  go_region_with (go_at_call 32; refine (ascend_nil s 0 _ _).mono ?_; rintro e w2 ⟨rfl, hb2⟩; have Hb2 := hide hb2; clear hb2)
  all_goals (go_wp2; go_end0; exact ⟨rfl, (unhide HbW).trans (below_of_drew ((unhide Hb2).mono (by have := (unhide HbW).size; simpa using this)))⟩)

set_option maxRecDepth 100000 in
set_option maxHeartbeats 1000000 in
/-- The edit at block eb, its table at block tb. Behind 'columns' of the foreign keys lies nothing. -/
theorem recheck_nil (eb tb : Nat) (q : ByteArray) (w : World) (hq : q.size ≤ 1048576) (hT : FoldTabs w) (he : w.cell? ⟨eb, 0, none⟩ = some (.pointer (some ⟨tb, 0, none⟩))) (hc : w.cell? ⟨tb, 6, none⟩ = some (.pointer none)) :
    Calls Tryf.prog 20 #[.pointer (some ⟨eb, 0, none⟩), .string q] w fun e w' => VoidPost w e w' := by
  have HT := hide hT
  clear hT
  go_enter Tryf.func20, Tryf.ntmps20
  go_wp2_with fail
  refine (using_nil tb 4 q _ _ _ w hq (unhide HT) hc).mono ?_
  rintro e w1 ⟨rfl, hb1⟩
  have Hb1 := hide hb1
  clear hb1
  go_wp2
  go_end0
  exact ⟨rfl, unhide Hb1⟩
end Go.Proofs.Qxb6604493aFmt
