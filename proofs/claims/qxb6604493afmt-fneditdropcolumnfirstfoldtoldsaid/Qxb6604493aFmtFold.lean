/-
  schema.fold returns, whatever the name: some string; nothing that was there has turned.
-/
import Derived.Test.Qxb6604493aFmtSimple
import Derived.Lib.TrimU
import Derived.BigCall
namespace Go.Proofs.Qxb6604493aFmt
open Go.RowKit Go.Lib

theorem FoldTabs.below {w wr : World} (h : FoldTabs w) (hb : Below w.heap.size w wr) : FoldTabs wr := by
  have lt : ∀ {a : Addr} {v : Value}, w.cell? a = some v → wr.cell? a = some v := fun {a v} hc => (hb.cell (World.block_lt_of_cell? _ _ hc)).trans hc
  refine ⟨fun i hi => lt (h.asc i hi), ?_, ?_⟩
  · obtain ⟨R, o, c, hg, hr⟩ := h.orb
    exact ⟨R, o, c, lt hg, fun i hi => ⟨lt (hr i hi).1, lt (hr i hi).2⟩⟩
  · obtain ⟨R, o, c, hg, hr⟩ := h.cas
    refine ⟨R, o, c, lt hg, fun i hi => ?_⟩
    obtain ⟨a0, a1, a2, a3, a4⟩ := hr i hi
    exact ⟨lt a0, lt a1, lt a2, lt a3, lt a4⟩
theorem FoldTabs.drewN {w : World} (h : FoldTabs w) (q : Nat) : FoldTabs (w.drewN q) := ⟨h.asc, h.orb, h.cas⟩

theorem below_of_drewN {B q : Nat} {W W1 : World} (h : Below B (W.drewN q) W1) : Below B W W1 := ⟨h.os, h.tape, h.output, h.size, h.block⟩

/-- Some string comes back; nothing old has turned. -/
def FoldPost (w : World) (e : Ending) (w' : World) : Prop := (∃ s : ByteArray, e = .returned (.string s)) ∧ Below w.heap.size w w'

theorem bytes_ascii (s : ByteArray) (h : ∀ j (hj : j < s.size), (s[j]).toNat < 128) : ∀ (j : Nat) (b : UInt8), s.data.toList[j]? = some b → b.toNat < 128 := by
  intro j b hj
  obtain ⟨h1, h2⟩ := List.getElem?_eq_some_iff.1 hj
  have hj' : j < s.size := by simpa using h1
  have := h j hj'
  rw [← h2]
  exact this

set_option maxRecDepth 100000 in
set_option maxHeartbeats 2000000 in
theorem fold_any (s : ByteArray) (w : World) (hs : s.size ≤ 1048576) (hT : FoldTabs w) :
    Calls Tryf.prog 31 #[.string s] w fun e w' => FoldPost w e w' := by
  have HT := hide hT
  clear hT
  go_enter Tryf.func31, Tryf.ntmps31
  go_wp2
  go_loop [3, 4] (fun a i => ∃ k : Nat, k ≤ s.size ∧ i = .int .i64 k ∧ a = .bool true ∧ ∀ j (hj : j < s.size), j < k → (s[j]).toNat < 128) (fun _ i => s.size - (RowKit.intOf i).toNat)
  case atStart => exact ⟨0, Nat.zero_le _, rfl, rfl, fun j hj h => by omega⟩
  case round =>
    obtain ⟨k, hk, rfl, rfl, hall⟩ := hrel
    have HA := hide hall
    clear hall
    by_cases hlt : k < s.size
    · have hlt' : (k : Int) < (s.size : Int) := by omega
      by_cases hb : (128 : Int) ≤ ((s[k]).toNat : Int)
      · go_wp2
        clear HA hk
        go_loopw [7, 8, 9] (fun _ _ _ wr => ∃ (pos : Nat) (acc : List UInt8), IsBuilderF 104 5 w.heap.size w.heap.size (byteCells acc) wr ∧ wr.heap[w.heap.size + 1]? = some (.stringIter s pos) ∧ Below w.heap.size w wr ∧ acc.length ≤ 4 * pos) (fun _ _ _ wr => s.size - wr.iterPos (w.heap.size + 1))
        case atStart =>
          refine ⟨0, [], (IsBuilderF.of (fresh_isBuilder 104 5 w)).alloc _, ?_, ((Below.refl _ w).alloc (Nat.le_refl _) _).alloc (by simp) _, by simp⟩
          have := World.iter_heap (w.alloc (.cells #[.pointer none, .slice none 0 0] 104)) s 0
          simpa using this
        case round =>
          obtain ⟨pos, acc, hI, hit, hbw, hal⟩ := hrel
          have hsz : w.heap.size + 1 < wr.heap.size := (Array.getElem?_eq_some_iff.1 hit).1
          by_cases hp : pos < s.size
          · have hwd := Lib.width_pos s pos
            have hd1 := Lib.rune_le s pos
            have hI2 := hI.iterAt hit (pos + (Utf8.decode s pos).2)
            have hit2 := iterAt_heap wr (w.heap.size + 1) s pos (pos + (Utf8.decode s pos).2) hit
            have hbw2 := below_iterAt hbw (k := w.heap.size + 1) (by omega) s (pos + (Utf8.decode s pos).2)
            have hnx : ∀ ty, (Instr.next (.pointer (some ⟨w.heap.size + 1, 0, none⟩)) true ty).run Tryf.prog wr = _ := fun ty => run_next_any_at wr (w.heap.size + 1) s pos ty hit hp
            obtain ⟨r, hr⟩ : ∃ r, (Utf8.decode s pos).1 = r := ⟨_, rfl⟩
            obtain ⟨d, hd⟩ : ∃ d, (Utf8.decode s pos).2 = d := ⟨_, rfl⟩
            obtain ⟨W, hW⟩ : ∃ W, wr.iterAt (w.heap.size + 1) s (pos + d) = W := ⟨_, rfl⟩
            simp only [hr, hd] at hwd hd1 hI2 hit2 hbw2 hnx
            simp only [hW] at hI2 hit2 hbw2 hnx
            have HI := hide hI2
            have Hit := hide hit2
            have Hit0 := hide hit
            have HbW := hide hbw2
            have HTW := hide ((unhide HT).below hbw2)
            clear hI2 hit2 hbw2 hr hd hW hI hit hbw
            go_wp2_with fail
            refine (simpleFold_any r hd1 W (unhide HTW)).mono ?_
            rintro e w1 ⟨rfl, q1, rfl⟩
            obtain ⟨K, hK⟩ := it_back r hd1
            have HK := hide hK
            clear hK
            go_wp2_with fail
            go_loopg [8, 9] K (fun g s8 s9 wx => ∃ (j q : Nat) (l : Int), s9 = .int .i32 ((it (j + 1) r : Nat) : Int) ∧ s8 = .int .i32 l ∧ 0 ≤ l ∧ l ≤ 1114111 ∧ wx = W.drewN q ∧ j + g = K)
            case atStart => exact ⟨0, q1, r, rfl, rfl, by omega, by omega, rfl, by omega⟩
            case round =>
              obtain ⟨j, q, l, rfl, rfl, hl0, hl1, rfl, hjg⟩ := hrel
              obtain ⟨f, hf⟩ : ∃ f, it (j + 1) r = f := ⟨_, rfl⟩
              have hfle : f ≤ 1114111 := by rw [← hf]; exact it_le r hd1 _
              have Hstep : Hid (it (j + 1 + 1) r = sf f) := by show sf (it (j + 1) r) = sf f; rw [hf]
              by_cases hfr : f = r
              · have hfr' : ((f : Int) != (r : Int)) = false := by simp [hfr]
                rw [hf]
                clear Hstep hf HK hjg
                go_wp2_with fail
                refine (Tryf.Builder_WriteRune_k w.heap.size w.heap.size _ l (by omega) (by omega) (W.drewN q) (by exact unhide HI) (by rw [byteCells_length]; omega) (by have := (unhide HbW).size; exact this)).mono ?_
                rintro e W1 ⟨rfl, h1, b1, k1⟩
                have HB := hide h1
                have Hb1 := hide b1
                have Hk1 := hide k1
                clear h1 b1 k1
                go_wp2
                go_roundw
                case rel =>
                  have hl4 := runeCells_le l
                  rw [runeCells_length] at hl4
                  refine ⟨pos + d, acc ++ encodeRune l, ?_, (unhide Hk1).iter (unhide Hit) (by omega), (unhide HbW).trans (below_of_drewN (unhide Hb1)), by simp; omega⟩
                  rw [byteCells_append, byteCells_encodeRune]
                  exact Or.inr (unhide HB)
                case measure =>
                  simp only [World.iterPos, (unhide Hk1).iter (unhide Hit) (by omega : w.heap.size + 1 ≠ w.heap.size), unhide Hit0]
                  omega
              · have hfr' : ((f : Int) != (r : Int)) = true := by simp; omega
                obtain ⟨g', rfl⟩ : ∃ g', gk = g' + 1 := by
                  cases gk with
                  | zero => exact absurd (hf.symm.trans (by rw [show j = K by omega]; exact unhide HK)) hfr
                  | succ g' => exact ⟨g', rfl⟩
                rw [hf]
                clear hf
                go_wp2_with fail
                refine (simpleFold_any f hfle _ ((unhide HTW).drewN q)).mono ?_
                rintro e w1 ⟨rfl, q2, rfl⟩
                go_wp2
                go_roundg g'
                case measure => omega
                case rel => exact ⟨j + 1, q + q2, _, by rw [unhide Hstep], rfl, by omega, by omega, rfl, by omega⟩
          · have hnx : ∀ ty, (Instr.next (.pointer (some ⟨w.heap.size + 1, 0, none⟩)) true ty).run Tryf.prog wr = _ := fun ty => run_next_end_at wr (w.heap.size + 1) s pos ty hit hp
            have HI := hide hI
            have Hbw := hide hbw
            clear hI hbw
            go_wp2_with fail
            refine (Tryf.Builder_String_any_k w.heap.size w.heap.size acc wr (unhide HI) (by omega)).mono ?_
            rintro e W1 ⟨rfl, -, b1, -⟩
            have Hb1 := hide b1
            clear b1
            go_wp2
            go_ret
            exact ⟨⟨_, rfl⟩, (unhide Hbw).trans (unhide Hb1)⟩
      · have Hb : Hid ((s[k]).toNat < 128) := by show _ < _; omega
        go_wp2
        go_round
        case rel =>
          refine ⟨k + 1, by omega, by go_num, rfl, fun j hj h => ?_⟩
          by_cases e : j = k
          · subst e; exact unhide Hb
          · exact unhide HA j hj (by omega)
        case measure => simp [RowKit.intOf]; omega
    · go_wp2_with fail
      refine (Tryf.strings_ToUpper_ascii s w (by omega) (bytes_ascii s fun j hj => unhide HA j hj (by omega))).mono ?_
      rintro e w1 ⟨rfl, hb1⟩
      go_wp2
      go_ret
      exact ⟨⟨_, rfl⟩, hb1⟩
end Go.Proofs.Qxb6604493aFmt
