/-
  The edit's make; the thin calls; the state that the two laws set up.
-/
import Derived.Test.Qxb6604493aFmtDrop
namespace Go.Proofs.Qxb6604493aFmt
open Go.RowKit Go.Lib Go.Extern.Stop Go.Stop Go.Extern

def EditPost (tb : Nat) (w : World) (e : Ending) (w' : World) : Prop :=
  ∃ eb, e = .returned (.pointer (some ⟨eb, 0, none⟩)) ∧ w.heap.size ≤ eb ∧ w'.cell? ⟨eb, 0, none⟩ = some (.pointer (some ⟨tb, 0, none⟩)) ∧ Below w.heap.size w w'

set_option maxRecDepth 100000 in
set_option maxHeartbeats 400000 in
theorem newEdit_any (tb : Nat) (w : World) :
    Calls Tryf.prog 9 #[.pointer (some ⟨tb, 0, none⟩)] w fun e w' => EditPost tb w e w' := by
  have hmm := @run_makeMap Tryf.prog
  go_enter Tryf.func9, Tryf.ntmps9
  go_wp2
  go_ret
  refine ⟨_, rfl, by omega, ?_, ((((Below.refl _ _).alloc (Nat.le_refl _) _).alloc (by simp) _).alloc (by simp; omega) _).alloc (by simp; omega) _⟩
  have := World.cell?_alloc_new (((w.alloc (Obj.map #[] 0)).alloc (Obj.map #[] 0)).alloc (Obj.map #[] 0)) #[Value.pointer (some ⟨tb, 0, none⟩), Value.map (some w.heap.size), Value.map (some (w.heap.size + 1)), Value.map (some (w.heap.size + 1 + 1)), Value.slice none 0 0, Value.slice none 0 0] 61 0
  simpa using this

set_option maxRecDepth 100000 in
set_option maxHeartbeats 400000 in
theorem editTable_any (eb tb : Nat) (w : World) (he : w.cell? ⟨eb, 0, none⟩ = some (.pointer (some ⟨tb, 0, none⟩))) :
    Calls Tryf.prog 11 #[.pointer (some ⟨eb, 0, none⟩)] w fun e w' => e = .returned (.pointer (some ⟨tb, 0, none⟩)) ∧ w' = w := by
  go_enter Tryf.func11, Tryf.ntmps11
  go_wp2
  go_ret
  exact ⟨rfl, rfl⟩

set_option maxRecDepth 100000 in
set_option maxHeartbeats 400000 in
theorem editDrop_any (F : Interp) (w0 : World) (eb tb ab n cap : Nat) (A : Nat → Nat) (S : Nat → ByteArray) (tn q : ByteArray) (w : World) (hF : F.answers w.tape) (hq : q.size ≤ 1048576) (hE : Ed w0 eb tb ab n cap A S tn w) :
    Calls Tryf.prog 10 #[.pointer (some ⟨eb, 0, none⟩), .string q] w fun e w' => DropPost w0 eb tb ab n cap A S tn q w e w' := by
  have HE := hide hE
  have HF := hide hF
  clear hE hF
  go_enter Tryf.func10, Tryf.ntmps10
  go_wp2_with fail
  refine (dropColumn_any F w0 eb tb ab n cap A S tn q w (unhide HF) hq (unhide HE)).mono ?_
  rintro e w1 (⟨⟨a, rfl⟩, h⟩ | ⟨rfl, h⟩)
  · have H := hide h
    clear h
    go_wp2
    go_ret
    exact Or.inl ⟨⟨a, rfl⟩, unhide H⟩
  · have H := hide h
    clear h
    go_wp2
    go_ret
    exact Or.inr ⟨rfl, unhide H⟩

def tableObj (tn : ByteArray) (ab n : Nat) : Obj := .cells #[.string tn, .slice (some ⟨ab, 0, none⟩) n n, .slice none 0 0, .slice none 0 0, .pointer none, .pointer none, .pointer none, .pointer none,
  .string ⟨#[]⟩, .int .u64 0, .pointer none, .pointer none, .pointer none, .pointer none, .string ⟨#[]⟩, .int .u64 0] 42

/-- The row of all columns, as the law keeps it. -/
def AllCols (w : World) (n : Nat) (wr : World) : Prop := ∀ j, j < n → wr.cell? ⟨w.heap.size, j, none⟩ = some (.pointer (some ⟨w.heap.size + 1 + j, 0, none⟩))

theorem setup {w w3 w4 w5 : World} {n eb : Nat} {S : Nat → ByteArray} {tn : ByteArray} (h3 : ColsAt w n S n w3) (h4 : CopyAt w3 n (fun j => ⟨w.heap.size + 1 + j, 0, none⟩) n w4)
    (hn : n ≤ 1048576) (hS : ∀ i, i < n → (S i).size ≤ 1048576) (hT : FoldTabs w) (hU : Utf8Tabs 3 4 w)
    (heb : (w4.alloc (tableObj tn w3.heap.size n)).heap.size ≤ eb) (hec : w5.cell? ⟨eb, 0, none⟩ = some (.pointer (some ⟨w4.heap.size, 0, none⟩))) (hb : Below (w4.alloc (tableObj tn w3.heap.size n)).heap.size (w4.alloc (tableObj tn w3.heap.size n)) w5) :
    Ed w eb w4.heap.size w3.heap.size n n (fun j => w.heap.size + 1 + j) S tn w5 ∧ AllCols w n w5 := by
  have s3 := h3.size
  have s4 := h4.size
  have hsz : (w4.alloc (tableObj tn w3.heap.size n)).heap.size = w4.heap.size + 1 := by simp
  rw [hsz] at heb
  have c4 : ∀ {p : Addr} {v : Value}, w4.cell? p = some v → w5.cell? p = some v := fun {p v} hc => by
    have hl := World.block_lt_of_cell? _ _ hc
    rw [hb.cell (by rw [hsz]; omega), World.cell?_alloc_lt _ _ _ hl]
    exact hc
  have f4 : ∀ {p : Addr}, p.block < w4.heap.size → w5.frozen? p = w4.frozen? p := fun {p} hl => by
    rw [hb.frozen (by rw [hsz]; omega), World.frozen?_alloc_old _ _ _ (by omega)]
  have c3 : ∀ {p : Addr} {v : Value}, w3.cell? p = some v → w5.cell? p = some v := fun {p v} hc => by
    have hl := World.block_lt_of_cell? _ _ hc
    exact c4 (by rw [h4.below.cell hl]; exact hc)
  have ct : ∀ (i : Nat) (v : Value), (w4.alloc (tableObj tn w3.heap.size n)).cell? ⟨w4.heap.size, i, none⟩ = some v → w5.cell? ⟨w4.heap.size, i, none⟩ = some v := fun i v hc => by
    rw [hb.cell (by rw [hsz]; show w4.heap.size < _; omega)]; exact hc
  refine ⟨⟨hT, hU, ?_, by omega, by omega, by omega, by omega, by omega, fun j hj => ⟨by omega, by omega⟩, Nat.le_refl _, hn, hec, ct 0 _ ?_, ct 1 _ ?_, ?_, ct 6 _ ?_, ⟨fun j hj => ?_, fun j hj => c3 (h3.names j hj), hS⟩, fun j hj => ?_⟩, fun j hj => ?_⟩
  · refine (h3.below.trans (h4.below.mono (by omega))).trans ?_
    exact ((Below.refl w.heap.size w4).alloc (by omega) _).trans (hb.mono (by omega))
  · unfold tableObj; rw [World.cell?_alloc_new]; rfl
  · unfold tableObj; rw [World.cell?_alloc_new]; rfl
  · rw [hb.frozen (by rw [hsz]; show w4.heap.size < _; omega)]
    unfold tableObj
    rw [World.frozen?_alloc_new]
  · unfold tableObj; rw [World.cell?_alloc_new]; rfl
  · have := h4.row j hj
    rw [if_pos hj] at this
    exact c4 this
  · rw [f4 (by show w3.heap.size < _; omega)]
    exact h4.froz j hj
  · have := h3.row j hj
    rw [if_pos hj] at this
    exact c3 this
end Go.Proofs.Qxb6604493aFmt
