/-
  parser.quoted: the plain law, and what its walk stands on.
-/
import Derived.Test.Qxb6002438aDoorCl
import Derived.Deep.RegionHeld3
import Derived.Deep.RegionWith
namespace Go.Proofs.Qxb6002438aDoor
open Go.RowKit

theorem ext_list (s : ByteArray) (a b : Nat) : (s.extract a b).data.toList = (s.data.toList.drop a).take (b - a) := Lib.extract_data s a b
/-- No quote in the next j bytes: they are skipped, and their newlines counted. -/
theorem quo_run (s : ByteArray) (k nl : Nat) : ∀ j, k + j ≤ s.size → (∀ h, k ≤ h → h < k + j → ¬ byt s h = 39) → quo s k nl = quo s (k + j) (nl + Lib.countByte (s.extract k (k + j)).data.toList 10)
  | 0, _, _ => by
    rw [ext_list, Nat.add_zero, Nat.sub_self, List.take_zero]
    rfl
  | j + 1, hj, hno => by
    rw [quo_run s k nl j (by omega) (fun h h1 h2 => hno h h1 (by omega)), quo_step s (k + j) _ (by omega), if_neg (hno (k + j) (by omega) (by omega))]
    have hg : s.data.toList[k + j]? = some (s.get! (k + j)) := (at_byt s (k + j) (by omega) _).2 rfl
    have e : (s.extract k (k + (j + 1))).data.toList = (s.extract k (k + j)).data.toList ++ [s.get! (k + j)] := by
      rw [ext_list, ext_list, show k + (j + 1) - k = j + 1 by omega, show k + j - k = j by omega, List.take_add_one, List.getElem?_drop, hg]
      rfl
    rw [e]
    unfold Lib.countByte
    rw [List.count_append, List.count_cons, List.count_nil]
    have hb : (s.get! (k + j) == 10) = true ↔ byt s (k + j) = 10 := by
      rw [beq_iff_eq]
      unfold byt
      exact ⟨fun h => by rw [h]; rfl, fun h => UInt8.toNat_inj.1 (by rw [h]; rfl)⟩
    by_cases h10 : byt s (k + j) = 10
    · rw [if_pos h10, if_pos (hb.2 h10)]
      rfl
    · rw [if_neg h10, if_neg (fun h => h10 (hb.1 h))]
      rfl
theorem quo_no (s : ByteArray) (k nl : Nat) (hk : k ≤ s.size) (hno : ∀ h, k ≤ h → h < s.size → ¬ byt s h = 39) : quo s k nl = none := by
  obtain ⟨j, hj⟩ : ∃ j, k + j = s.size := ⟨s.size - k, by omega⟩
  rw [quo_run s k nl j (by omega) (fun h h1 h2 => hno h h1 (by omega)), hj]
  exact quo_end s _ _ (Nat.lt_irrefl _)
theorem count_ext_le (s : ByteArray) (k j : Nat) : Lib.countByte (s.extract k (k + j)).data.toList 10 ≤ j := by
  unfold Lib.countByte
  refine Nat.le_trans List.count_le_length ?_
  rw [ext_list, List.length_take]
  omega
/-- The frame of a round of quoted. -/
def QFrm (p lv iv bv : Value) (a : Act) : Prop := a.defers = [] ∧ a.tmps.size = 114 ∧ a.tmps.getD 0 undef = p ∧ a.tmps.getD 4 undef = lv ∧ a.tmps.getD 5 undef = iv ∧ a.tmps.getD 6 undef = bv
/-- What holds at the head of a round: position k, nl newlines so far. -/
def QSt (s : ByteArray) (g i line : Nat) (w : World) (k nl : Nat) (wr : World) : Prop :=
  g < w.heap.size ∧ PB g s k (line + nl) wr ∧ Kept w.heap.size (fun j => j = g) w wr ∧ IsB w.heap.size w.heap.size k wr ∧ quo s (i + 1) 0 = quo s k nl
def QI (s : ByteArray) (g i line : Nat) (w : World) (a : Act) (wr : World) : Prop :=
  QFrm (.pointer (some ⟨g, 0, none⟩)) (.int .i64 (line : Int)) (.int .i64 (i : Int)) (.pointer (some ⟨w.heap.size, 0, none⟩)) a ∧ ∃ k nl : Nat, i < k ∧ k ≤ s.size ∧ nl ≤ k ∧ QSt s g i line w k nl wr
def QK (s : ByteArray) (g i line : Nat) (w : World) (wr : World) (a : Act) (w' : World) : Prop := QI s g i line w a w' ∧ left s g w' < left s g wr
def QQRet (s : ByteArray) (g i line : Nat) (w : World) (Q : Exit → Act → World → Prop) : Prop :=
  ∀ (a : Act) (w' : World), a.defers = [] → QPost s g i line w (.returned (.tuple #[a.tmps.getD 2 undef, a.tmps.getD 3 undef])) w' → Q .ret a w'
section
variable {s : ByteArray} {g i line k nl : Nat} {w wr : World}
theorem QSt.p (h : QSt s g i line w k nl wr) : PB g s k (line + nl) wr := h.2.1
theorem QSt.kept (h : QSt s g i line w k nl wr) : Kept w.heap.size (fun j => j = g) w wr := h.2.2.1
theorem QSt.b (h : QSt s g i line w k nl wr) : IsB w.heap.size w.heap.size k wr := h.2.2.2.1
theorem QSt.q (h : QSt s g i line w k nl wr) : quo s (i + 1) 0 = quo s k nl := h.2.2.2.2
theorem QSt.drewN (h : QSt s g i line w k nl wr) (q : Nat) : QSt s g i line w k nl (wr.drewN q) := ⟨h.1, h.2.1, h.2.2.1, h.b.drewN q, h.q⟩
end
theorem qround_ok {s : ByteArray} {g i line : Nat} {w wr w' : World} {k k' nl' : Nat} {a : Act} (hl : left s g wr = s.size - k) (hf : QFrm (.pointer (some ⟨g, 0, none⟩)) (.int .i64 (line : Int)) (.int .i64 (i : Int)) (.pointer (some ⟨w.heap.size, 0, none⟩)) a) (h : QSt s g i line w k' nl' w') (h1 : i < k) (h2 : k < k') (h3 : k' ≤ s.size) (h4 : nl' ≤ k') : QK s g i line w wr a w' := by
  refine ⟨⟨hf, k', nl', by omega, h3, h4, h⟩, ?_⟩
  rw [left_eq h.p, hl]
  omega
end Go.Proofs.Qxb6002438aDoor
