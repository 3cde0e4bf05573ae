/-
  The copies: zzCloneStrings, zzCloneNested.
-/
import Derived.Test.Qxb6604757aDoorSizes
import Derived.Deep.OwnRows
import Derived.Below
import Derived.Laws.Cover3
namespace Go.Proofs.Qxb6604757aDoor
open Go.RowKit

theorem Tryd.info9 : (Tryd.prog.info? 9).map (fun i => (i.zero, i.size, i.bytes)) = some (some (.string ByteArray.empty), 1, 16) := by kernel_rfl
theorem Tryd.info22 : (Tryd.prog.info? 22).map (fun i => (i.zero, i.size, i.bytes)) = some (some (.slice none 0 0), 1, 24) := by kernel_rfl
theorem Tryd.info20 : (Tryd.prog.info? 20).map (fun i => (i.zero, i.size, i.bytes)) = some (some .nilIface, 1, 16) := by kernel_rfl

/-- A new row at block w.heap.size, its first k cells filled by V. -/
structure RowK (w : World) (n : Nat) (V : Nat → Value) (z : Value) (k : Nat) (wr : World) : Prop where
  below : Below w.heap.size w wr
  size : w.heap.size < wr.heap.size
  row : ∀ j, j < n → wr.cell? ⟨w.heap.size, j, none⟩ = some (if j < k then V j else z)
  froz : ∀ j, j < n → wr.frozen? ⟨w.heap.size, j, none⟩ = false

theorem rowK_start (w : World) (n : Nat) (V : Nat → Value) (z : Value) (t : TypeId) : RowK w n V z 0 (w.alloc (.cells (madeCells #[z] n) t)) := by
  refine ⟨(Below.refl _ _).alloc (Nat.le_refl _) _, by simp, fun j hj => ?_, fun j hj => ?_⟩
  · rw [World.cell?_alloc_new]
    simp [madeCells, hj, Nat.mod_one]
  · simp

theorem RowK.step {w : World} {n : Nat} {V : Nat → Value} {z : Value} {k : Nat} {wr : World} (h : RowK w n V z k wr) (hk : k < n) (v : Value) (hv : v = V k) :
    RowK w n V z (k + 1) (wr.setCell ⟨w.heap.size, k, none⟩ v) := by
  refine ⟨h.below.setCell (Nat.le_refl _) _, by have := h.size; simpa using this, fun j hj => ?_, fun j hj => ?_⟩
  · by_cases e : j = k
    · subst e
      rw [World.cell?_setCell_same _ _ _ (h.row j hj), if_pos (by omega), hv]
    · rw [World.cell?_setCell_other _ _ _ _ (by intro e'; injection e' with _ e2; omega), h.row j hj]
      by_cases hjk : j < k
      · rw [if_pos hjk, if_pos (by omega)]
      · rw [if_neg hjk, if_neg (by omega)]
  · rw [World.frozen?_setCell]
    exact h.froz j hj

/-- New memory beyond leaves it alone. -/
theorem RowK.grow {w : World} {n : Nat} {V : Nat → Value} {z : Value} {k : Nat} {wr w' : World} (h : RowK w n V z k wr) (hb : Below wr.heap.size wr w') : RowK w n V z k w' :=
  ⟨h.below.trans (hb.mono (Nat.le_of_lt h.size)), Nat.lt_of_lt_of_le h.size hb.size, fun j hj => (hb.cell h.size).trans (h.row j hj), fun j hj => (hb.frozen h.size).trans (h.froz j hj)⟩

theorem StrRow.below {w w' : World} {a : Option Addr} {n : Nat} {S : Nat → ByteArray} (h : StrRow w a n S) (hb : Below w.heap.size w w') : StrRow w' a n S := by
  intro i hi
  obtain ⟨b, off, ha, hc⟩ := h i hi
  exact ⟨b, off, ha, (hb.cell (World.block_lt_of_cell? _ _ hc)).trans hc⟩
theorem NestRow.below {w w' : World} {a : Option Addr} {m : Nat} {A : Nat → Option Addr} {L C : Nat → Nat} {S : Nat → Nat → ByteArray} (h : NestRow w a m A L C S) (hb : Below w.heap.size w w') : NestRow w' a m A L C S := by
  intro i hi
  obtain ⟨b, off, ha, hc, hs⟩ := h i hi
  exact ⟨b, off, ha, (hb.cell (World.block_lt_of_cell? _ _ hc)).trans hc, hs.below hb⟩
theorem StrRow.nil {w : World} {n : Nat} {S : Nat → ByteArray} (h : StrRow w none n S) : n = 0 := by
  rcases Nat.eq_zero_or_pos n with e | e
  · exact e
  · obtain ⟨b, off, ha, _⟩ := h 0 e
    cases ha
theorem NestRow.nil {w : World} {m : Nat} {A : Nat → Option Addr} {L C : Nat → Nat} {S : Nat → Nat → ByteArray} (h : NestRow w none m A L C S) : m = 0 := by
  rcases Nat.eq_zero_or_pos m with e | e
  · exact e
  · obtain ⟨b, off, ha, _⟩ := h 0 e
    cases ha

theorem eql22_nil (a : Option Addr) (l c : Nat) (w : World) : (binOp .eql 22 (.slice a l c) (.slice none 0 0)).run Tryd.prog w = .ok (.bool a.isNone) w := by
  simp only [binOp, Sem.run_bind, run_equal_slice_nil w 22 9 a l c Tryd.underlying22]
  rfl
theorem eql23_nil (a : Option Addr) (l c : Nat) (w : World) : (binOp .eql 23 (.slice a l c) (.slice none 0 0)).run Tryd.prog w = .ok (.bool a.isNone) w := by
  simp only [binOp, Sem.run_bind, run_equal_slice_nil w 23 22 a l c Tryd.underlying23]
  rfl

def ClonePost (n : Nat) (S : Nat → ByteArray) (w : World) (e : Ending) (w' : World) : Prop :=
  ∃ a c, e = .returned (.slice a n c) ∧ StrRow w' a n S ∧ (∀ p, a = some p → w.heap.size ≤ p.block) ∧ Below w.heap.size w w'

set_option maxRecDepth 100000 in
set_option maxHeartbeats 1000000 in
theorem clone_any (a : Option Addr) (n c : Nat) (S : Nat → ByteArray) (w : World) (hn : n ≤ 1048576) (hS : StrRow w a n S) :
    Calls Tryd.prog 7 #[.slice a n c] w fun e w' => ClonePost n S w e w' := by
  cases a with
  | none =>
    obtain rfl := hS.nil
    clear hS
    have hq := eql22_nil
    go_enter Tryd.func7, Tryd.ntmps7
    go_wp2
    go_ret
    exact ⟨none, 0, rfl, (fun i hi => by omega), (fun p h => by cases h), Below.refl _ _⟩
  | some a0 =>
    have HS := hide hS
    clear hS
    have hmk := run_make_row' (P := Tryd.prog) 22 9 (.string ByteArray.empty) 16 Tryd.underlying22 Tryd.info9 rfl .i64 .i64 n (by omega) (by omega)
    have hq := eql22_nil
    go_enter Tryd.func7, Tryd.ntmps7
    go_wp2_with fail
    clear hmk hq
    go_loopw [4] (fun i wr => ∃ k : Nat, k ≤ n ∧ i = .int .i64 k ∧ RowK w n (fun j => .string (S j)) (.string ByteArray.empty) k wr) (fun i _ => n - (intOf i).toNat)
    case atStart => exact ⟨0, Nat.zero_le _, rfl, rowK_start w n _ _ _⟩
    case round =>
      obtain ⟨k, hk, rfl, hC⟩ := hrel
      by_cases hlt : k < n
      · obtain ⟨b, off, ha, hc⟩ := (unhide HS) k hlt
        injection ha with ha
        subst ha
        have hlt' : (k : Int) < (n : Int) := by omega
        obtain ⟨s, hs⟩ : ∃ s, s = S k := ⟨_, rfl⟩
        rw [← hs] at hc
        have hc' : wr.cell? ⟨b, off + k, none⟩ = some (.string s) := (hC.below.cell (World.block_lt_of_cell? _ _ hc)).trans hc
        have hr := hC.row k hlt
        rw [if_neg (by omega)] at hr
        have hf := hC.froz k hlt
        have HC := hide hC
        have HV := hide hs
        clear hc hC hs
        go_wp2
        go_roundw
        case rel => exact ⟨k + 1, by omega, by go_num, (unhide HC).step hlt _ (by rw [unhide HV])⟩
        case measure => simp [intOf]; omega
      · have e : k = n := by omega
        subst e
        have HC := hide hC
        clear hC
        go_wp2
        go_ret
        refine ⟨_, _, rfl, fun i hi => ⟨w.heap.size, 0, rfl, ?_⟩, (fun p h => by injection h with h; subst h; exact Nat.le_refl _), (unhide HC).below⟩
        have := (unhide HC).row i hi
        rw [if_pos hi] at this
        simpa using this

def CloneNPost (m : Nat) (L : Nat → Nat) (S : Nat → Nat → ByteArray) (w : World) (e : Ending) (w' : World) : Prop :=
  ∃ a c A C, e = .returned (.slice a m c) ∧ NestRow w' a m A L C S ∧ Below w.heap.size w w'

/-- Behind k rounds: the row of slices, and each slice's own strings. -/
def NestK (w : World) (m : Nat) (L : Nat → Nat) (S : Nat → Nat → ByteArray) (k : Nat) (wr : World) : Prop :=
  ∃ (A : Nat → Option Addr) (C : Nat → Nat), RowK w m (fun j => .slice (A j) (L j) (C j)) (.slice none 0 0) k wr ∧ ∀ j, j < k → StrRow wr (A j) (L j) (S j) ∧ ∀ p, A j = some p → w.heap.size < p.block

theorem nestK_step {w : World} {m : Nat} {L : Nat → Nat} {S : Nat → Nat → ByteArray} {k : Nat} {wr w' : World} (h : NestK w m L S k wr) (hb : Below wr.heap.size wr w') (hk : k < m) {a : Option Addr} {c : Nat} (hs : StrRow w' a (L k) (S k)) (hlt : ∀ p, a = some p → wr.heap.size ≤ p.block) :
    NestK w m L S (k + 1) (w'.setCell ⟨w.heap.size, k, none⟩ (.slice a (L k) c)) := by
  obtain ⟨A, C, hr, hall⟩ := h
  have hr' := hr.grow hb
  refine ⟨fun j => if j = k then a else A j, fun j => if j = k then c else C j, ?_, ?_⟩
  · have e : RowK w m (fun j => .slice (if j = k then a else A j) (L j) (if j = k then c else C j)) (.slice none 0 0) k w' := by
      refine ⟨hr'.below, hr'.size, fun j hj => ?_, hr'.froz⟩
      rw [hr'.row j hj]
      by_cases hjk : j < k
      · rw [if_pos hjk, if_pos hjk]
        have : j ≠ k := by omega
        simp [this]
      · rw [if_neg hjk, if_neg hjk]
    exact e.step hk _ (by simp)
  · have far : ∀ a1 l1 S1, StrRow w' a1 l1 S1 → (∀ p, a1 = some p → w.heap.size < p.block) → StrRow (w'.setCell ⟨w.heap.size, k, none⟩ (.slice a (L k) c)) a1 l1 S1 := by
      intro a1 l1 S1 h1 hne i hi
      obtain ⟨b, off, ha, hc⟩ := h1 i hi
      refine ⟨b, off, ha, ?_⟩
      have := hne _ ha
      rw [World.cell?_setCell_other _ _ _ _ (by intro e; injection e with e1; simp at this; omega)]
      exact hc
    intro j hj
    by_cases e : j = k
    · subst e
      simp only [if_true]
      have hp : ∀ p, a = some p → w.heap.size < p.block := fun p ha => Nat.lt_of_lt_of_le hr.size (hlt p ha)
      exact ⟨far _ _ _ hs hp, hp⟩
    · simp only [e, if_false]
      exact ⟨far _ _ _ ((hall j (by omega)).1.below hb) (hall j (by omega)).2, (hall j (by omega)).2⟩

set_option maxRecDepth 100000 in
set_option maxHeartbeats 1000000 in
theorem cloneN_any (a : Option Addr) (m c : Nat) (A : Nat → Option Addr) (L C : Nat → Nat) (S : Nat → Nat → ByteArray) (w : World) (hm : m ≤ 1048576) (hL : ∀ i, i < m → L i ≤ 1048576) (hS : NestRow w a m A L C S) :
    Calls Tryd.prog 8 #[.slice a m c] w fun e w' => CloneNPost m L S w e w' := by
  cases a with
  | none =>
    obtain rfl := hS.nil
    clear hS hL
    have hq := eql23_nil
    go_enter Tryd.func8, Tryd.ntmps8
    go_wp2
    go_ret
    exact ⟨none, 0, A, C, rfl, (fun i hi => by omega), Below.refl _ _⟩
  | some a0 =>
    have HS := hide hS
    have HL := hide hL
    clear hS hL
    have hmk := run_make_row' (P := Tryd.prog) 23 22 (.slice none 0 0) 24 Tryd.underlying23 Tryd.info22 rfl .i64 .i64 m (by omega) (by omega)
    have hq := eql23_nil
    go_enter Tryd.func8, Tryd.ntmps8
    go_wp2_with fail
    clear hmk hq
    go_loopw [4] (fun i wr => ∃ k : Nat, k ≤ m ∧ i = .int .i64 k ∧ NestK w m L S k wr) (fun i _ => m - (intOf i).toNat)
    case atStart => exact ⟨0, Nat.zero_le _, rfl, fun _ => none, fun _ => 0, rowK_start w m _ _ _, fun j hj => by omega⟩
    case round =>
      obtain ⟨k, hk, rfl, hC⟩ := hrel
      by_cases hlt : k < m
      · obtain ⟨b, off, ha, hc, hs⟩ := (unhide HS) k hlt
        injection ha with ha
        subst ha
        have hbel : Below w.heap.size w wr := hC.elim fun _ h => h.elim fun _ h => h.1.below
        have hlt' : (k : Int) < (m : Int) := by omega
        have hc' : wr.cell? ⟨b, off + k, none⟩ = some (.slice (A k) (L k) (C k)) := (hbel.cell (World.block_lt_of_cell? _ _ hc)).trans hc
        have Hs := hide (hs.below hbel)
        have hl := (unhide HL) k hlt
        have HC := hide hC
        clear hc hC hs hbel
        obtain ⟨l1, hl1⟩ : ∃ l, L k = l := ⟨_, rfl⟩
        have Hs2 := Hs
        rw [hl1] at hc' hl Hs2
        have Hl1 := hide hl1
        clear hl1
        generalize A k = a1 at hc' Hs Hs2
        generalize C k = c1 at hc'
        go_wp2_with fail
        refine (clone_any a1 l1 c1 _ wr hl (unhide Hs2)).mono ?_
        rintro e w2 ⟨a2, c2, rfl, hs2, hp2, hb2⟩
        have hr : w2.cell? ⟨w.heap.size, k, none⟩ = some (.slice none 0 0) := by
          obtain ⟨A', C', h1, _⟩ := unhide HC
          have := (h1.grow hb2).row k hlt
          rwa [if_neg (by omega)] at this
        have hf : w2.frozen? ⟨w.heap.size, k, none⟩ = false := by
          obtain ⟨A', C', h1, _⟩ := unhide HC
          exact (h1.grow hb2).froz k hlt
        have HN := hide (nestK_step (c := c2) (unhide HC) hb2 hlt (by rw [unhide Hl1]; exact hs2) hp2)
        rw [unhide Hl1] at HN
        clear HC hs2 hp2 hb2 Hs Hs2
        go_wp2
        go_roundw
        case rel => exact ⟨k + 1, by omega, by go_num, unhide HN⟩
        case measure => simp [intOf]; omega
      · have e : k = m := by omega
        subst e
        have HC := hide hC
        clear hC
        go_wp2
        go_ret
        obtain ⟨A', C', h1, h2⟩ := unhide HC
        refine ⟨_, _, A', C', rfl, fun i hi => ⟨w.heap.size, 0, rfl, ?_, (h2 i hi).1⟩, h1.below⟩
        have := h1.row i hi
        rw [if_pos hi] at this
        simpa using this
end Go.Proofs.Qxb6604757aDoor
