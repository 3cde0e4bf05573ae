/-
  The library's calls, as this program makes them.
-/
import Derived.Test.Qxb6002438aDoorShelf
import Derived.Test.Qxb6002438aDoorNz
import Derived.Below
namespace Go.Proofs.Qxb6002438aDoor
open Go.RowKit

theorem ib_any : IBc := fun t c w => (Any.strings_IndexByte Tryd.lays137 t (c.toNat : Int) w).mono fun e w' ⟨he, hw⟩ => ⟨by rw [he]; simp, hw⟩
theorem count_nl (t : ByteArray) (w : World) : Calls Tryd.prog 37 #[.string t, .string ⟨#[10]⟩] w fun e w' => e = .returned (.int .i64 (Lib.countByte t.data.toList 10 : Nat)) ∧ w' = w := Any.strings_Count_one Tryd.lays138 t 10 w

theorem Tryd.extra166 : Builder.Extra Tryd.prog Tryd.lays166_ren where
  sizeBuilder := by kernel_rfl
  liesBuilder := by kernel_rfl
  t5 := Tryd.lays137.t5
  a5 := Tryd.lays137.a5
  z5 := Tryd.lays137.z5
  v5 := Tryd.lays137.v5
  infoByte := by kernel_rfl
  cellsByte := by kernel_rfl
  sizeByte := by kernel_rfl
  neB5 := by decide
theorem Tryd.extra167 : Builder.Extra Tryd.prog Tryd.lays167_ren where
  sizeBuilder := by kernel_rfl
  liesBuilder := by kernel_rfl
  t5 := Tryd.lays137.t5
  a5 := Tryd.lays137.a5
  z5 := Tryd.lays137.z5
  v5 := Tryd.lays137.v5
  infoByte := by kernel_rfl
  cellsByte := by kernel_rfl
  sizeByte := by kernel_rfl
  neB5 := by decide
theorem Tryd.extra169 : Builder.Extra Tryd.prog Tryd.lays169_ren where
  sizeBuilder := by kernel_rfl
  liesBuilder := by kernel_rfl
  t5 := Tryd.lays137.t5
  a5 := Tryd.lays137.a5
  z5 := Tryd.lays137.z5
  v5 := Tryd.lays137.v5
  infoByte := by kernel_rfl
  cellsByte := by kernel_rfl
  sizeByte := by kernel_rfl
  neB5 := by decide
/-- Block b is a builder, of at most n bytes; what it owns lies from block B on. -/
def IsB (B b n : Nat) (w : World) : Prop := ∃ l : List UInt8, l.length ≤ n ∧ Lib.IsBuilderF 97 5 B b (Lib.byteCells l) w
theorem IsB.of {B b n : Nat} {w w' : World} (h : IsB B b n w) (he : ∀ j, B ≤ j → w'.heap[j]? = w.heap[j]?) : IsB B b n w' := by
  obtain ⟨l, hl, h⟩ := h
  refine ⟨l, hl, ?_⟩
  have key : ∀ p, Lib.BuilderAtF 97 5 B b p (Lib.byteCells l) w → Lib.BuilderAtF 97 5 B b p (Lib.byteCells l) w' := by
    rintro p ⟨h1, v, h2, h3, h4⟩
    refine ⟨h1, v, (he b h1).trans h2, ?_, h4⟩
    obtain ⟨h5, h6⟩ := h3
    refine ⟨h5, ?_⟩
    rcases h6 with h6 | ⟨g, cap, cur, hi, hv, hb, hg, r⟩
    · exact Or.inl h6
    · exact Or.inr ⟨g, cap, cur, hi, hv, hb, (he g hb).trans hg, r⟩
  exact h.imp (key _) (key _)
theorem IsB.setCell {B b n : Nat} {w : World} (h : IsB B b n w) (a : Addr) (ha : a.block < B) (u : Value) : IsB B b n (w.setCell a u) := h.of fun j hj => Below.heap_setCell _ _ _ _ (by omega)
theorem IsB.drewN {B b n : Nat} {w : World} (h : IsB B b n w) (q : Nat) : IsB B b n (w.drewN q) := h.of fun _ _ => rfl
theorem IsB.fresh (w : World) : IsB w.heap.size w.heap.size 0 (w.alloc (.cells #[.pointer none, .slice none 0 0] 97)) := ⟨[], Nat.le_refl _, (Lib.fresh_isBuilder 97 5 w).imp Lib.BuilderAtF.of Lib.BuilderAtF.of⟩
theorem wstr_any (B b n : Nat) (t : ByteArray) (w : World) (h : IsB B b n w) (hn : n + t.size ≤ 140737488355328) (hB : B ≤ w.heap.size) :
    Calls Tryd.prog 36 #[.pointer (some ⟨b, 0, none⟩), .string t] w fun e w' => e = .returned (.tuple #[.int .i64 (t.size : Int), .nilIface]) ∧ IsB B b (n + t.size) w' ∧ Below B w w' := by
  obtain ⟨l, hl, h⟩ := h
  refine (Any.Builder_WriteString_k Tryd.lays166 Tryd.extra166 B b (Lib.byteCells l) t w h (by rw [Lib.byteCells_length]; omega) hB).mono fun e w' ⟨he, h1, h2, _⟩ => ⟨he, ⟨l ++ t.data.toList, ?_, Or.inr ?_⟩, h2⟩
  · rw [List.length_append, ← Lib.size_eq]; omega
  · rw [Lib.strCells_eq] at h1
    rw [show Lib.byteCells (l ++ t.data.toList) = Lib.byteCells l ++ Lib.byteCells t.data.toList from List.map_append ..]
    exact h1
theorem wbyte_any (B b n : Nat) (w : World) (h : IsB B b n w) (hn : n + 1 ≤ 140737488355328) (hB : B ≤ w.heap.size) :
    Calls Tryd.prog 38 #[.pointer (some ⟨b, 0, none⟩), .int .u8 39] w fun e w' => e = .returned .nilIface ∧ IsB B b (n + 1) w' ∧ Below B w w' := by
  obtain ⟨l, hl, h⟩ := h
  refine (Any.Builder_WriteByte_k Tryd.lays167 Tryd.extra167 B b (Lib.byteCells l) 39 w h (by rw [Lib.byteCells_length]; omega) hB).mono fun e w' ⟨he, h1, h2, _⟩ => ⟨he, ⟨l ++ [39], ?_, Or.inr ?_⟩, h2⟩
  · rw [List.length_append]; simp; omega
  · rw [show Lib.byteCells (l ++ [39]) = Lib.byteCells l ++ Lib.byteCells [39] from List.map_append ..]
    exact h1
theorem bstr_any (B b n : Nat) (w : World) (h : IsB B b n w) (hB : B ≤ w.heap.size) :
    Calls Tryd.prog 39 #[.pointer (some ⟨b, 0, none⟩)] w fun e w' => (∃ t, e = .returned (.string t)) ∧ Below B w w' := by
  obtain ⟨l, hl, h⟩ := h
  exact (Any.Builder_String_any_f Tryd.lays169 Tryd.extra169 B b l w h hB).mono fun e w' ⟨he, _, h2⟩ => ⟨⟨_, he⟩, h2⟩
end Go.Proofs.Qxb6002438aDoor
