/-
  (*edit).dropColumn.
-/
import Derived.Test.Qxb6604493aFmtDelete
import Derived.Test.Qxb6604493aFmtUsing
import Derived.Test.Qxb6604493aFmtErr
namespace Go.Proofs.Qxb6604493aFmt
open Go.RowKit Go.Lib Go.Extern.Stop Go.Stop Go.Extern

/-- An edit at block eb over a table at block tb, whose columns' row lies at block ab. The world w0: as the call began. -/
structure Ed (w0 : World) (eb tb ab n cap : Nat) (A : Nat → Nat) (S : Nat → ByteArray) (tn : ByteArray) (w : World) : Prop where
  tabs : FoldTabs w0
  utf : Utf8Tabs 3 4 w0
  below : Below w0.heap.size w0 w
  etb : w0.heap.size ≤ tb
  eab : w0.heap.size ≤ ab
  ne1 : eb ≠ tb
  ne2 : eb ≠ ab
  ne3 : tb ≠ ab
  neA : ∀ j, j < n → A j ≠ ab ∧ A j ≠ tb
  ncap : n ≤ cap
  small : cap ≤ 1048576
  edit : w.cell? ⟨eb, 0, none⟩ = some (.pointer (some ⟨tb, 0, none⟩))
  name : w.cell? ⟨tb, 0, none⟩ = some (.string tn)
  slice : w.cell? ⟨tb, 1, none⟩ = some (.slice (some ⟨ab, 0, none⟩) n cap)
  sfroz : w.frozen? ⟨tb, 1, none⟩ = false
  fks : w.cell? ⟨tb, 6, none⟩ = some (.pointer none)
  cols : Cols w ab n A S
  cfroz : ∀ j, j < n → w.frozen? ⟨ab, j, none⟩ = false

theorem Ed.trans {w0 : World} {eb tb ab n cap : Nat} {A : Nat → Nat} {S : Nat → ByteArray} {tn : ByteArray} {w w' : World} (h : Ed w0 eb tb ab n cap A S tn w) (hb : Below w.heap.size w w') : Ed w0 eb tb ab n cap A S tn w' := by
  have lt : ∀ {a : Addr} {v : Value}, w.cell? a = some v → w'.cell? a = some v := fun {a v} hc => (hb.cell (World.block_lt_of_cell? _ _ hc)).trans hc
  exact ⟨h.tabs, h.utf, h.below.trans (hb.mono h.below.size), h.etb, h.eab, h.ne1, h.ne2, h.ne3, h.neA, h.ncap, h.small, lt h.edit, lt h.name, lt h.slice,
    (hb.frozen (World.block_lt_of_cell? _ _ h.slice)).trans h.sfroz, lt h.fks, h.cols.below hb, fun j hj => (hb.frozen (World.block_lt_of_cell? _ _ (h.cols.row j hj))).trans (h.cfroz j hj)⟩

/-- Of the blocks of w all but two stand. -/
structure But2 (w : World) (tb ab : Nat) (w' : World) : Prop where
  os : w'.os = w.os
  tape : w'.tape = w.tape
  output : w'.output = w.output
  size : w.heap.size ≤ w'.heap.size
  block : ∀ k, k < w.heap.size → k ≠ tb → k ≠ ab → w'.heap[k]? = w.heap[k]?

theorem But2.of_below {w w' : World} {tb ab : Nat} (h : Below w.heap.size w w') : But2 w tb ab w' := ⟨h.os, h.tape, h.output, h.size, fun k hk _ _ => h.block k hk⟩
theorem But2.trans {w w1 w2 : World} {tb ab : Nat} (h : But2 w tb ab w1) (k : But2 w1 tb ab w2) : But2 w tb ab w2 :=
  ⟨k.os.trans h.os, k.tape.trans h.tape, k.output.trans h.output, Nat.le_trans h.size k.size, fun i hi a b => (k.block i (Nat.lt_of_lt_of_le hi h.size) a b).trans (h.block i hi a b)⟩
theorem But2.cell {w w' : World} {tb ab : Nat} (h : But2 w tb ab w') {p : Addr} {v : Value} (hc : w.cell? p = some v) (h1 : p.block ≠ tb) (h2 : p.block ≠ ab) : w'.cell? p = some v := by
  rw [World.cell?_of_block (w := w) (h.block p.block (World.block_lt_of_cell? _ _ hc) h1 h2)]
  exact hc
theorem But2.below {w w' : World} {tb ab B : Nat} (h : But2 w tb ab w') (hB : B ≤ w.heap.size) (h1 : B ≤ tb) (h2 : B ≤ ab) : Below B w w' :=
  ⟨h.os, h.tape, h.output, h.size, fun k hk => h.block k (by omega) (by omega) (by omega)⟩

def del {α : Type} (A : Nat → α) (i j : Nat) : α := if j < i then A j else A (j + 1)

/-- What stands behind the drop: of the row at ab and of the table's slice alone something has turned. -/
theorem Ed.deleted {w0 : World} {eb tb ab n cap i : Nat} {A : Nat → Nat} {S : Nat → ByteArray} {tn : ByteArray} {w w2 : World} (h : Ed w0 eb tb ab n cap A S tn w) (hi : i < n) (hD : DelAt w ab n i A w2) :
    Ed w0 eb tb ab (n - 1) cap (del A i) (del S i) tn (w2.setCell ⟨tb, 1, none⟩ (.slice (some ⟨ab, 0, none⟩) (n - 1) cap)) ∧
      But2 w tb ab (w2.setCell ⟨tb, 1, none⟩ (.slice (some ⟨ab, 0, none⟩) (n - 1) cap)) := by
  have c2 : ∀ {p : Addr} {v : Value}, w.cell? p = some v → p.block ≠ ab → w2.cell? p = some v := fun {p v} hc hp => by
    rw [World.cell?_of_block (w := w) (hD.block p.block hp)]; exact hc
  have other : ∀ {p : Addr} {v : Value}, w2.cell? p = some v → p ≠ ⟨tb, 1, none⟩ → (w2.setCell ⟨tb, 1, none⟩ (.slice (some ⟨ab, 0, none⟩) (n - 1) cap)).cell? p = some v := fun {p v} hc hp => by
    rw [World.cell?_setCell_other _ _ _ _ (Ne.symm hp)]; exact hc
  have ne3 := h.ne3
  have ne1 := h.ne1
  have s2 := c2 h.slice (by exact ne3)
  have dl : ∀ j, j < n - 1 → ∃ m, m < n ∧ del A i j = A m ∧ del S i j = S m := fun j hj => by
    by_cases e : j < i
    · exact ⟨j, by omega, by simp [del, e], by simp [del, e]⟩
    · exact ⟨j + 1, by omega, by simp [del, e], by simp [del, e]⟩
  have B2 : But2 w tb ab (w2.setCell ⟨tb, 1, none⟩ (.slice (some ⟨ab, 0, none⟩) (n - 1) cap)) := by
    refine ⟨hD.os, hD.tape, hD.output, by simp [hD.size], fun k hk h1 h2 => ?_⟩
    rw [Below.heap_setCell _ _ _ _ (by exact h1)]
    exact hD.block k h2
  refine ⟨⟨h.tabs, h.utf, h.below.trans (B2.below (by have := h.below.size; omega) h.etb h.eab), h.etb, h.eab, h.ne1, h.ne2, h.ne3, fun j hj => ?_, by have := h.ncap; omega, h.small,
    other (c2 h.edit (by exact h.ne2)) (by intro e; injection e; omega), other (c2 h.name (by exact ne3)) (by intro e; injection e; omega), World.cell?_setCell_same _ _ _ s2, ?_,
    other (c2 h.fks (by exact ne3)) (by intro e; injection e; omega), ⟨fun j hj => ?_, fun j hj => ?_, fun j hj => ?_⟩, fun j hj => ?_⟩, B2⟩
  · obtain ⟨m, hm, e, _⟩ := dl j hj
    rw [e]
    exact h.neA m hm
  · rw [World.frozen?_setCell, World.frozen?_of_block (w := w) (hD.block tb ne3)]
    exact h.sfroz
  · refine other ?_ (by intro e; injection e; omega)
    exact hD.row j hj
  · obtain ⟨m, hm, e1, e2⟩ := dl j hj
    rw [e1, e2]
    have := h.neA m hm
    exact other (c2 (h.cols.name m hm) (by exact this.1)) (by intro e; injection e with e; omega)
  · obtain ⟨m, hm, _, e⟩ := dl j hj
    rw [e]
    exact h.cols.size m hm
  · rw [World.frozen?_setCell, hD.froz]
    exact h.cfroz j (by omega)

theorem del_of_drew {w w2 : World} {ab n i : Nat} {A : Nat → Nat} (h : DelAt w.drew ab n i A w2) : DelAt w ab n i A w2 := ⟨h.os, h.tape, h.output, h.size, h.block, h.row, h.froz⟩
theorem del_cell {w w2 : World} {ab n i b o : Nat} {A : Nat → Nat} {v : Value} (hD : DelAt w.drew ab n i A w2) (hc : w.cell? ⟨b, o, none⟩ = some v) (hb : b ≠ ab) : w2.cell? ⟨b, o, none⟩ = some v := by
  rw [World.cell?_of_block (w := w) (a := ⟨b, o, none⟩) (hD.block b hb)]
  exact hc
theorem del_froz {w w2 : World} {ab n i b o : Nat} {A : Nat → Nat} (hD : DelAt w.drew ab n i A w2) (hc : w.frozen? ⟨b, o, none⟩ = false) (hb : b ≠ ab) : w2.frozen? ⟨b, o, none⟩ = false := by
  rw [World.frozen?_of_block (w := w) (a := ⟨b, o, none⟩) (hD.block b hb)]
  exact hc

/-- dropColumn: it misses and tells so, the edit as it was; or it drops one column. -/
def DropPost (w0 : World) (eb tb ab n cap : Nat) (A : Nat → Nat) (S : Nat → ByteArray) (tn q : ByteArray) (w : World) (e : Ending) (w' : World) : Prop :=
  ((∃ a : Addr, e = .returned (.iface 98 (.pointer (some a)))) ∧ (∀ j, j < n → ¬ Same (S j) q) ∧ Ed w0 eb tb ab n cap A S tn w' ∧ But2 w tb ab w') ∨
  (e = .returned .nilIface ∧ ∃ i, i < n ∧ ¬ Diff (S i) q ∧ (∀ j, j < i → ¬ Same (S j) q) ∧ Ed w0 eb tb ab (n - 1) cap (del A i) (del S i) tn w' ∧ But2 w tb ab w')

set_option maxRecDepth 100000 in
set_option maxHeartbeats 2000000 in
theorem dropColumn_any (F : Interp) (w0 : World) (eb tb ab n cap : Nat) (A : Nat → Nat) (S : Nat → ByteArray) (tn q : ByteArray) (w : World) (hF : F.answers w.tape) (hq : q.size ≤ 1048576) (hE : Ed w0 eb tb ab n cap A S tn w) :
    Calls Tryf.prog 14 #[.pointer (some ⟨eb, 0, none⟩), .string q] w fun e w' => DropPost w0 eb tb ab n cap A S tn q w e w' := by
  have HE := hide hE
  have HF := hide hF
  have he := hE.edit
  have hncap := hE.ncap
  have hsmall := hE.small
  clear hE hF
  go_enter Tryf.func14, Tryf.ntmps14
  go_wp2_with fail
  refine (column_any tb ab n cap A S q w (by omega) hq ((unhide HE).tabs.below (unhide HE).below) (Utf8Tabs_below (unhide HE).utf (unhide HE).below) (unhide HE).cols (unhide HE).slice).mono ?_
  rintro e w1 ⟨⟨r, rfl, hr⟩, hb1⟩
  have HE1 := hide ((unhide HE).trans hb1)
  have HB1 : Hid (But2 w tb ab w1) := But2.of_below hb1
  have HF1 : Hid (F.answers w1.tape) := by show F.answers w1.tape; rw [hb1.tape]; exact unhide HF
  clear hb1 he HE HF
  rcases hr with ⟨rfl, hno⟩ | ⟨i, hi, rfl, hnd, hno⟩
  · have Hno := hide hno
    clear hno
    go_wp2_with fail
    refine (missing_any F eb tb tn _ q w1 (unhide HF1) (unhide HE1).edit (unhide HE1).name).mono ?_
    rintro e w2 ⟨⟨a, rfl⟩, hb2⟩
    have Hb2 := hide hb2
    clear hb2
    go_wp2
    go_ret
    exact Or.inl ⟨⟨a, rfl⟩, unhide Hno, (unhide HE1).trans (unhide Hb2), (unhide HB1).trans (But2.of_below (unhide Hb2))⟩
  · have Hno := hide hno
    have Hnd := hide hnd
    clear hno hnd
    have he1 := (unhide HE1).edit
    have hs1 := (unhide HE1).slice
    have hi' : (i : Int) < (n : Int) := by omega
    have hwr : IntKind.i64.wrap ((i : Int) + 1) = (i : Int) + 1 := by rw [IntKind.wrap_i64]; omega
    go_wp2
    go_region_with (go_at_call 19; refine (delete_any ab n cap i A _ hi hncap (by omega) ?_ ?_).mono ?_; exact (unhide HE1).cols.row; exact (unhide HE1).cfroz; rintro e w2 ⟨rfl, hD⟩; have HD := hide hD; have e2 : w2.cell? ⟨eb, 0, none⟩ = some (.pointer (some ⟨tb, 0, none⟩)) := del_cell hD he1 (unhide HE1).ne2; have s2 : w2.cell? ⟨tb, 1, none⟩ = some (.slice (some ⟨ab, 0, none⟩) n cap) := del_cell hD hs1 (unhide HE1).ne3; have f2 : w2.frozen? ⟨tb, 1, none⟩ = false := del_froz hD (unhide HE1).sfroz (unhide HE1).ne3; clear hD)
    all_goals
      go_wp2_with fail
      obtain ⟨hE2, hB2⟩ := (unhide HE1).deleted hi (del_of_drew (unhide HD))
      refine (recheck_nil eb tb q _ hq (hE2.tabs.below hE2.below) hE2.edit hE2.fks).mono ?_
      rintro e w3 ⟨rfl, hb3⟩
      have HE3 := hide (hE2.trans hb3)
      have HB3 := hide (((unhide HB1).trans hB2).trans (But2.of_below hb3))
      clear hE2 hB2 hb3 e2 s2 f2
      go_wp2
      go_ret
      exact Or.inr ⟨rfl, i, hi, unhide Hnd, unhide Hno, unhide HE3, unhide HB3⟩
end Go.Proofs.Qxb6604493aFmt
