/-
  validUTF8: the first line that is not UTF-8, as an error.
-/
import Derived.Test.Qxb6002438aDoorLines
import Derived.Test.Qxb6002438aDoorShelf
import Derived.Test.Qxb6002438aDoorShape
import Derived.Shelf.Unicode.DecodeSlow
namespace Go.Proofs.Qxb6002438aDoor
open Go.RowKit Go.Lib

def VPost (s : ByteArray) (w : World) (e : Ending) (w' : World) : Prop :=
  Below w.heap.size w w' ∧ ((badLine s = 0 ∧ e = .returned .nilIface) ∨ (0 < badLine s ∧ ∃ v, e = .returned v ∧ EB w.heap.size (badLine s) v w'))
theorem bad_pos : ∀ (ps : List ByteArray) (ln : Nat), 0 < ln → bad ln ps = 0 ∨ ln ≤ bad ln ps
  | [], _, _ => Or.inl rfl
  | p :: ps, ln, h => by
    rw [bad]
    split
    · rcases bad_pos ps (ln + 1) (by omega) with x | x
      · exact Or.inl x
      · exact Or.inr (by omega)
    · exact Or.inr (Nat.le_refl _)
theorem drop_cons {l : List ByteArray} {n : Nat} {p : ByteArray} (h : l[n]? = some p) : l.drop n = p :: l.drop (n + 1) := by
  obtain ⟨hlt, e⟩ := List.getElem?_eq_some_iff.1 h
  rw [List.drop_eq_getElem_cons hlt, e]

theorem split_small (sep : ByteArray) : ∀ (k : Nat) (s p : ByteArray), p ∈ splitB sep 0 k s → p.size ≤ s.size
  | 0, s, p, h => by
    rw [splitB_zero, List.mem_singleton] at h
    rw [h]
    exact Nat.le_refl _
  | k + 1, s, p, h => by
    rw [splitB] at h
    split at h
    · rw [List.mem_singleton] at h
      rw [h]
      exact Nat.le_refl _
    · rcases List.mem_cons.1 h with h | h
      · rw [h, ByteArray.size_extract]; omega
      · have := split_small sep k _ p h
        rw [ByteArray.size_extract] at this
        omega
set_option maxRecDepth 100000 in
set_option maxHeartbeats 4000000 in
theorem valid8_any (s : ByteArray) (w : World) (m : Int) (hs : s.size ≤ 1048576) (hm : w.cell? ⟨2, 0, none⟩ = some (.int .i64 m)) (hT : Utf8Tabs 0 1 w) : Calls Tryd.prog 22 #[.string s] w fun e w' => VPost s w e w' := by
  have hcle := countB_le nlB (by rw [nlB_size]; exact Nat.le_refl _) s.size s (Nat.le_refl _)
  have hlen := splitB_all nlB (by rw [nlB_size]; exact Nat.le_refl _) 0 _ s rfl
  have hsp := Any.strings_Split Tryd.lays146 (by kernel_rfl) s nlB m w (by omega) hm (by rw [nlB_size]; exact Nat.le_refl _)
  obtain ⟨ps, hps⟩ : ∃ ps, ps = pcs s := ⟨_, rfl⟩
  have hps' : splitB nlB 0 (countB s nlB) s = ps := hps.symm
  have HPS := hide (split_small nlB (countB s nlB) s)
  rw [hps'] at hlen hsp HPS
  obtain ⟨cn, hcn⟩ : ∃ cn, cn = countB s nlB := ⟨_, rfl⟩
  rw [← hcn] at hlen hsp hcle
  have hb0 : badLine s = bad (0 + 1) (ps.drop 0) := by unfold badLine; rw [← hps]; rfl
  have HSP : Hid (Calls Tryd.prog 27 #[.string s, .string ⟨#[10]⟩] w fun e w' => e = .returned (.slice (some ⟨w.heap.size, 0, none⟩) (cn + 1) (cn + 1)) ∧ w' = w.alloc (.cells (ps.map Value.string).toArray 9)) := hide hsp
  have HB := hide hb0
  have HT := hide hT
  generalize hbl : badLine s = bl at HB
  have HBL := hide hbl
  clear hsp hps hps' hcn hb0 hT hbl hm
  go_enter Tryd.func22, Tryd.ntmps22
  go_wp2_with fail
  refine (unhide HSP).mono ?_
  rintro e w1 ⟨rfl, hw1⟩
  have HR : Hid (w1.heap[w.heap.size]? = some (.cells (ps.map Value.string).toArray 9 (0, 0))) := by rw [hw1]; exact heap_alloc_new _ _
  have HB1 : Hid (Below w.heap.size w w1) := by rw [hw1]; exact (Below.refl _ _).alloc (Nat.le_refl _) _
  have hz1 : w1.heap.size = w.heap.size + 1 := by rw [hw1]; simp
  clear hw1
  go_wp2_with fail
  go_loopw [3, 4, 8] (fun _ _ iv wr => ∃ n : Nat, n ≤ cn + 1 ∧ iv = .int .i64 n ∧ Below (w.heap.size + 1) w1 wr ∧ bl = bad (n + 1) (ps.drop n)) (fun _ _ iv _ => cn + 1 - (RowKit.intOf iv).toNat)
  case atStart => exact ⟨0, by omega, rfl, Below.refl _ _, unhide HB⟩
  case round =>
    obtain ⟨n, hn, rfl, hbel, hbad⟩ := hrel
    have HBE := hide hbel
    have HBA := hide hbad
    have hn0 : (0 : Int) ≤ (n : Int) := by omega
    have hw : Below w.heap.size w wr := (unhide HB1).trans (hbel.mono (by omega))
    have HW := hide hw
    have hlt8 : w.heap.size < wr.heap.size := by have := hbel.size; omega
    have HTr := hide (Utf8Tabs_below (unhide HT) hw)
    have hrow := (hbel.block w.heap.size (by omega)).trans (unhide HR)
    clear hbel hbad hw
    by_cases hlt : n < cn + 1
    · have hlt1 : (n : Int) < (cn : Int) + 1 := by omega
      have hlt2 : n < ps.length := by omega
      have hc := cell_of_row wr w.heap.size n _ _ _ hrow
      obtain ⟨p, hp⟩ : ∃ p, ps[n]? = some p := ⟨_, List.getElem?_eq_getElem hlt2⟩
      have hcell : wr.cell? ⟨w.heap.size, n, none⟩ = some (.string p) := by rw [hc]; simp [hp]
      have HD := hide (drop_cons hp)
      have hpz : p.size ≤ 9223372036854775807 := by
        have := (unhide HPS) p (List.mem_of_getElem? hp)
        omega
      clear hc hrow hp
      go_wp2_with fail
      refine (Any.utf8_ValidString Tryd.lays196 p wr hpz (unhide HTr)).mono ?_
      rintro e w2 ⟨rfl, hb2⟩
      have HB2 := hide (hb2.mono (show w.heap.size + 1 ≤ wr.heap.size by omega))
      have hz2 := hb2.size
      clear hb2
      generalize hvd : validD p.data.toList = r
      have HV := hide hvd
      clear hvd
      cases r with
      | true =>
        have HS : Hid (bl = bad (n + 1 + 1) (ps.drop (n + 1))) := by
          show _ = _
          rw [unhide HBA, unhide HD, bad, if_pos (unhide HV)]
        go_wp2
        go_roundw
        case rel => exact ⟨n + 1, by omega, by go_num, (unhide HBE).trans (unhide HB2), unhide HS⟩
        case measure => simp [RowKit.intOf]; omega
      | false =>
        have HS : Hid (bl = n + 1) := by
          show _ = _
          rw [unhide HBA, unhide HD, bad, if_neg (by rw [unhide HV]; decide)]
        go_wp2
        go_ret
        refine ⟨(((unhide HW).trans ((unhide HB2).mono (by omega))).alloc (by omega) _), Or.inr ?_⟩
        rw [unhide HBL, unhide HS]
        exact ⟨by omega, _, rfl, _, _, by omega, rfl, heap_alloc_new _ _⟩
    · have hlt1 : ¬ (n : Int) < (cn : Int) + 1 := by omega
      have hlt2 : ((n : Int) < (cn : Int) + 1) = False := eq_false hlt1
      have HS : Hid (bl = 0) := by
        show _ = _
        rw [unhide HBA, List.drop_of_length_le (by omega)]
        rfl
      clear hrow
      go_wp2
      go_ret
      exact ⟨unhide HW, Or.inl ⟨(unhide HBL).trans (unhide HS), rfl⟩⟩
end Go.Proofs.Qxb6002438aDoor
