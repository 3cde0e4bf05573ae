/-
  strings.Cut at a colon; strings.Trim at space and tab.
-/
import Derived.Test.Qxb6604744aFmtBytes
import Derived.Test.Qxb6604744aFmtShelf
import Derived.BigQuiet
import Derived.Deep.QuietTactic
import Derived.Deep.RegionWith
import Derived.Below
namespace Go.Proofs.Qxb6604744aFmt
open Go.Shelf Go.RowKit Go.Lib

/-- A text out of a list of bytes. -/
def str (l : List UInt8) : ByteArray := ⟨l.toArray⟩
theorem str_toList (l : List UInt8) : (str l).data.toList = l := rfl
theorem str_self (s : ByteArray) : str s.data.toList = s := by cases s; simp [str]
theorem str_inj {l m : List UInt8} (h : str l = str m) : l = m := by
  have := congrArg (fun s => s.data.toList) h
  exact this
theorem str_size (l : List UInt8) : (str l).size = l.length := rfl
theorem size_eq (s : ByteArray) : s.size = s.data.toList.length := rfl

/-- The new world differs from the old in numbers drawn only. -/
def Drew (w wr : World) : Prop := ∃ z, wr = w.drewN z

theorem trim_any (s : ByteArray) (w : World) (hs : s.size ≤ 9223372036854775807) :
    Calls Tryf.prog 17 #[.string s, .string ⟨#[32, 9]⟩] w fun e w' => e = .returned (.string (str (trimS s.data.toList cuts))) ∧ Below w.heap.size w w' :=
  Any.strings_Trim_laid Tryf.lays160 (by kernel_rfl) s ⟨#[32, 9]⟩ w hs (by decide) (ascii_of_all (by decide))

def CutPost (s : ByteArray) (w : World) (e : Ending) (w' : World) : Prop :=
  ((∃ k : Nat, indexByte s.data.toList 58 = (k : Int) ∧ e = .returned (.tuple #[.string (str (s.data.toList.take k)), .string (str (s.data.toList.drop (k + 1))), .bool true])) ∨
    (indexByte s.data.toList 58 = -1 ∧ ∃ a b, e = .returned (.tuple #[.string a, .string b, .bool false]))) ∧ Drew w w'

theorem index_lt {l : List UInt8} {k : Nat} (h : indexByte l 58 = (k : Int)) : k < l.length := by
  obtain ⟨h1, _⟩ := indexByte_some h
  exact (List.getElem?_eq_some_iff.1 h1).1

theorem ext_take (s : ByteArray) (k : Nat) : s.extract 0 k = str (s.data.toList.take k) := by
  rw [extract_eq]; simp [str]
theorem ext_drop (s : ByteArray) (k : Nat) : s.extract k s.size = str (s.data.toList.drop k) := by
  rw [extract_eq]
  have : List.take (s.size - k) (List.drop k s.data.toList) = List.drop k s.data.toList := List.take_of_length_le (by rw [List.length_drop, ← size_eq]; exact Nat.le_refl _)
  rw [this]
  rfl

set_option maxRecDepth 100000 in
set_option maxHeartbeats 2000000 in
theorem cut29_any (s : ByteArray) (w : World) (hs : s.size ≤ 9223372036854775807) : Calls Tryf.prog 29 #[.string s, .string ⟨#[58]⟩] w fun e w' => CutPost s w e w' := by
  have h1 := indexByte_ge s.data.toList 58
  by_cases hix : indexByte s.data.toList 58 = -1
  · have HX := hide hix
    clear hix h1
    go_enter Tryf.func29, Tryf.ntmps29
    go_wp2_with fail
    refine (Any.stringslite_Index_one Tryf.lays219 s 58 w).mono ?_
    rintro e w' ⟨rfl, rfl⟩
    rw [unhide HX]
    go_wp2
    go_ret3
    exact ⟨Or.inr ⟨unhide HX, _, _, rfl⟩, 0, rfl⟩
  · obtain ⟨k, hk⟩ : ∃ k : Nat, indexByte s.data.toList 58 = (k : Int) := ⟨(indexByte s.data.toList 58).toNat, by omega⟩
    have hlt := index_lt hk
    rw [← size_eq] at hlt
    have HX := hide hk
    clear hix h1 hk
    have c1 : (0 : Int) ≤ (k : Int) := by omega
    have c2 : (k : Int) ≤ (s.size : Int) := by omega
    obtain ⟨K1, hK1⟩ : ∃ K1, k + 1 = K1 := ⟨_, rfl⟩
    have wk : IntKind.i64.wrap ((k : Int) + 1) = (K1 : Int) := by rw [IntKind.wrap_i64]; omega
    have c3 : (0 : Int) ≤ (K1 : Int) := by omega
    have c4 : (K1 : Int) ≤ (s.size : Int) := by omega
    have HK1 := hide hK1
    clear hK1
    go_enter Tryf.func29, Tryf.ntmps29
    go_wp2_with fail
    refine (Any.stringslite_Index_one Tryf.lays219 s 58 w).mono ?_
    rintro e w' ⟨rfl, rfl⟩
    rw [unhide HX]
    go_wp2_with fail
    go_quiet (fail)
    go_wp2
    go_ret3
    refine ⟨Or.inl ⟨k, unhide HX, ?_⟩, _, rfl⟩
    rw [← ext_take, ← ext_drop, unhide HK1]
    rfl

set_option maxRecDepth 100000 in
set_option maxHeartbeats 1000000 in
theorem cut_any (s : ByteArray) (w : World) (hs : s.size ≤ 9223372036854775807) : Calls Tryf.prog 18 #[.string s, .string ⟨#[58]⟩] w fun e w' => CutPost s w e w' := by
  go_enter Tryf.func18, Tryf.ntmps18
  go_wp2_with fail
  refine (cut29_any s w hs).mono ?_
  rintro e w1 ⟨(⟨k, hk, rfl⟩ | ⟨hx, a, b, rfl⟩), hd⟩
  · have HK := hide hk
    have HD := hide hd
    clear hk hd
    go_wp2
    go_ret3
    exact ⟨Or.inl ⟨k, unhide HK, rfl⟩, unhide HD⟩
  · have HK := hide hx
    have HD := hide hd
    clear hx hd
    go_wp2
    go_ret3
    exact ⟨Or.inr ⟨unhide HK, _, _, rfl⟩, unhide HD⟩
end Go.Proofs.Qxb6604744aFmt
