import Derived.Test.Qxb6604493aFmtColumn
import Derived.Test.Qxb6604493aFmtCols
import Derived.Shelf.SlicesE.Delete
namespace Go.Proofs.Qxb6604493aFmt
open Go.Shelf Go.RowKit Go.Lib
def Tryf.laysDel_ren : Go.Shelf.Ren := ⟨fun | 45 => 19 | n => n, fun | 22 => 25 | 23 => 49 | n => n, fun n => n⟩
theorem Tryf.laysDel : Go.Proofs.SlLaysE.n45 Tryf.prog Tryf.laysDel_ren := {
  mixed := by kernel_rfl
  f45 := ⟨Tryf.f19.name, by kernel_rfl, Tryf.func19.trans (congrArg some (by kernel_rfl))⟩
  t0 := Tryf.underlying0
  a0 := Tryf.isAgg0
  z0 := Tryf.sizeOf0
  v0 := Tryf.zeroValue0
  t3 := Tryf.underlying3
  a3 := Tryf.isAgg3
  z3 := Tryf.sizeOf3
  v3 := Tryf.zeroValue3
  t4 := Tryf.underlying4
  a4 := Tryf.isAgg4
  z4 := Tryf.sizeOf4
  v4 := Tryf.zeroValue4
  t22 := Tryf.underlying25
  a22 := Tryf.isAgg25
  z22 := Tryf.sizeOf25
  v22 := Tryf.zeroValue25
  a23 := Tryf.isAgg49
  z23 := Tryf.sizeOf49 }

/-- A column's pointer: nil, or to the head of a block. -/
def encP : Option Nat → Value
  | some b => .pointer (some ⟨b, 0, none⟩)
  | none => .pointer none
theorem encP_one : OneCell encP := fun x => by cases x <;> rfl
def rowOf (n : Nat) (A : Nat → Nat) : Array (Option Nat) := ((List.range n).map fun j => some (A j)).toArray
theorem rowOf_size (n : Nat) (A : Nat → Nat) : (rowOf n A).size = n := by simp [rowOf]

/-- The world behind slices.Delete(s, i, i+1) over the row at block ab: of the other blocks nothing has turned. -/
structure DelAt (w : World) (ab n i : Nat) (A : Nat → Nat) (w' : World) : Prop where
  os : w'.os = w.os
  tape : w'.tape = w.tape
  output : w'.output = w.output
  size : w'.heap.size = w.heap.size
  block : ∀ k, k ≠ ab → w'.heap[k]? = w.heap[k]?
  row : ∀ j, j < n - 1 → w'.cell? ⟨ab, j, none⟩ = some (.pointer (some ⟨if j < i then A j else A (j + 1), 0, none⟩))
  froz : ∀ j, w'.frozen? ⟨ab, j, none⟩ = w.frozen? ⟨ab, j, none⟩

theorem rowOf_get (n : Nat) (A : Nat → Nat) (j : Nat) (hj : j < n) : (rowOf n A)[j]! = some (A j) := by
  have h : j < (rowOf n A).size := by rw [rowOf_size]; exact hj
  rw [getElem!_pos _ j h]
  simp [rowOf]

theorem delRow_get (n : Nat) (A : Nat → Nat) (i j : Nat) (hi : i < n) (hj : j < n - 1) :
    ((rowOf n A).toList.take i ++ (rowOf n A).toList.drop (i + 1) ++ List.replicate 1 (none : Option Nat)).toArray[j]! = some (if j < i then A j else A (j + 1)) := by
  have hl : j < ((rowOf n A).toList.take i ++ (rowOf n A).toList.drop (i + 1) ++ List.replicate 1 (none : Option Nat)).length := by simp [rowOf]; omega
  rw [getElem!_pos _ j (by simpa using hl)]
  simp only [List.getElem_toArray]
  rw [List.getElem_append_left (by simp [rowOf]; omega)]
  by_cases h : j < i
  · rw [if_pos h, List.getElem_append_left (by simp [rowOf]; omega)]
    simp [rowOf]
  · rw [if_neg h, List.getElem_append_right (by simp [rowOf]; omega)]
    simp [rowOf]
    congr 1
    omega

theorem delete_any (ab n cap i : Nat) (A : Nat → Nat) (w : World) (hi : i < n) (hcap : n ≤ cap) (hm : cap ≤ 9223372036854775807)
    (hrow : ∀ j, j < n → w.cell? ⟨ab, j, none⟩ = some (.pointer (some ⟨A j, 0, none⟩))) (hfr : ∀ j, j < n → w.frozen? ⟨ab, j, none⟩ = false) :
    Calls Tryf.prog 19 #[.slice (some ⟨ab, 0, none⟩) n cap, .int .i64 (i : Int), .int .i64 (i + 1 : Int)] w fun e w' => e = .returned (.slice (some ⟨ab, 0, none⟩) (n - 1) cap) ∧ DelAt w ab n i A w' := by
  obtain ⟨i0, hi0, -, hz1, -⟩ := info_parts Tryf.info49
  have hH : Go.Sort.Holds encP w ab 0 (rowOf n A) := fun j hj => by
    rw [rowOf_size] at hj
    rw [rowOf_get n A j hj, Nat.zero_add]
    exact ⟨hrow j hj, hfr j hj⟩
  have h := AnyE.slices_Delete Tryf.laysDel encP encP_one none Tryf.zeroValue49 i0 hi0 hz1 ab 0 cap i (i + 1) (rowOf n A) w hH (by rw [rowOf_size]; exact hcap) hm (by omega) (by rw [rowOf_size]; omega)
  rw [rowOf_size, show ((i + 1 : Nat) : Int) = (i : Int) + 1 by omega, show i + 1 - i = 1 by omega] at h
  change Calls Tryf.prog 19 _ _ _ at h
  refine h.mono ?_
  rintro e w' ⟨rfl, q, rfl⟩
  refine ⟨rfl, rfl, rfl, rfl, by simp, fun k hk => ?_, fun j hj => ?_, fun j => by simp⟩
  · simp only [Go.Sort.putRow, Go.Sort.mapBlock, Array.getElem?_modify]
    rw [if_neg (Ne.symm hk)]
    rfl
  · have hc := Go.Sort.cell?_putRow encP (Go.Sort.ahead w q) ab 0 (rowOf n A) ((rowOf n A).toList.take i ++ (rowOf n A).toList.drop (i + 1) ++ List.replicate 1 (none : Option Nat)).toArray hH (by simp [rowOf]; omega) j (by simp [rowOf]; omega)
    rw [delRow_get n A i j hi hj, Nat.zero_add] at hc
    exact hc
end Go.Proofs.Qxb6604493aFmt
