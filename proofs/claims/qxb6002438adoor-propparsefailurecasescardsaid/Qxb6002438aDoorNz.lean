/-
  parser.nodes: what its walk stands on.
-/
import Derived.Test.Qxb6002438aDoorShape
import Derived.Lib.Bytealg
import Derived.Lib.Strings
import Derived.Deep.RegionHeld3
namespace Go.Proofs.Qxb6002438aDoor
open Go.RowKit

theorem Tryd.info50 : (Tryd.prog.info? 50).map (fun i => (i.zero, i.size, i.bytes)) = some (some .nilIface, 1, 16) := by kernel_rfl
/-- What is asked of the callees. -/
def IBc : Prop := ∀ (t : ByteArray) (c : UInt8) (w : World), Calls Tryd.prog 29 #[.string t, .int .u8 (c.toNat : Int)] w fun e w' => e = .returned (.int .i64 (Lib.indexByte t.data.toList c)) ∧ w' = w
def CRc : Prop := ∀ (c : Nat) (_ : c < 256) (w : World), Calls Tryd.prog 31 #[.string ⟨#[32, 9, 10, 123, 125, 124, 39]⟩, .int .i32 (c : Int)] w fun e w' => (∃ r : Bool, e = .returned (.bool r) ∧ (r = true ↔ isDelim c)) ∧ ∃ q, w' = w.drewN q
def Qc (s : ByteArray) (g : Nat) : Prop := ∀ (i line : Nat) (w : World), i < s.size → line ≤ i + 1 → PB g s i line w → Calls Tryd.prog 30 #[.pointer (some ⟨g, 0, none⟩)] w fun e w' => QPost s g i line w e w'
def IHc (s : ByteArray) (g i : Nat) : Prop := ∀ (i' line' : Nat) (o' : Option (Nat × Nat)) (w' : World), i < i' → i' ≤ s.size → line' ≤ i' + 1 → St s g o' w' i' line' (.slice none 0 0) w' → Calls Tryd.prog 23 #[.pointer (some ⟨g, 0, none⟩), openV o'] w' fun e w2 => NPost s g o' w' i' line' e w2

def left (s : ByteArray) (g : Nat) (w : World) : Nat := match w.cell? ⟨g, 1, none⟩ with | some (.int _ p) => s.size - p.toNat | _ => 0
theorem left_eq {s : ByteArray} {g k ln : Nat} {w : World} (h : PB g s k ln w) : left s g w = s.size - k := by unfold left; rw [h.c1]; simp

/-- The frame of a round: the parser, the open block, the nodes so far; the rest is whatever. -/
def Frm (p ov nv : Value) (a : Act) : Prop := a.defers = [] ∧ a.tmps.size = 300 ∧ a.tmps.getD 0 undef = p ∧ a.tmps.getD 1 undef = ov ∧ a.tmps.getD 2 undef = undef ∧ a.tmps.getD 3 undef = undef ∧ a.tmps.getD 6 undef = nv
/-- What holds at the head of a round. -/
def NI (s : ByteArray) (g : Nat) (o : Option (Nat × Nat)) (w : World) (i line : Nat) (a : Act) (wr : World) : Prop :=
  ∃ nv, Frm (.pointer (some ⟨g, 0, none⟩)) (openV o) nv a ∧ ∃ k ln : Nat, i ≤ k ∧ k ≤ s.size ∧ ln ≤ k + 1 ∧ St s g o w k ln nv wr ∧ ∀ t, R s i line (top o t) = R s k ln (top o t)
def NK (s : ByteArray) (g : Nat) (o : Option (Nat × Nat)) (w : World) (i line : Nat) (wr : World) (a : Act) (w' : World) : Prop := NI s g o w i line a w' ∧ left s g w' < left s g wr
/-- What the return asks. -/
def QRet (s : ByteArray) (g : Nat) (o : Option (Nat × Nat)) (w : World) (i line : Nat) (Q : Exit → Act → World → Prop) : Prop :=
  ∀ (a : Act) (w' : World), a.defers = [] → NPost s g o w i line (.returned (.tuple #[a.tmps.getD 4 undef, a.tmps.getD 5 undef])) w' → Q .ret a w'
def firstLoop : Code → Option Code
  | .loop c => some c
  | .seq a b => match firstLoop a with
    | some c => some c
    | none => firstLoop b
  | .block _ c => firstLoop c
  | .scope c => firstLoop c
  | .cond _ a b => match firstLoop a with
    | some c => some c
    | none => firstLoop b
  | _ => none

theorem wrap_small (x : UInt8) : wrap32 (x.toNat : Int) = x.toNat ∧ IntKind.i32.wrap (x.toNat : Int) = x.toNat := by
  have := UInt8.toNat_lt x
  have h : IntKind.i32.wrap (x.toNat : Int) = x.toNat := by rw [IntKind.wrap_i32]; omega
  exact ⟨by unfold wrap32; omega, h⟩
theorem round_ok {s : ByteArray} {g : Nat} {o : Option (Nat × Nat)} {w wr w' : World} {i line k k' ln' : Nat} {v : Value} {a : Act} (hl : left s g wr = s.size - k) (hf : Frm (.pointer (some ⟨g, 0, none⟩)) (openV o) v a) (h : St s g o w k' ln' v w') (h1 : i ≤ k) (h2 : k < k') (h3 : k' ≤ s.size) (h4 : ln' ≤ k' + 1) (hR : ∀ t, R s i line (top o t) = R s k' ln' (top o t)) :
    NK s g o w i line wr a w' := by
  refine ⟨⟨v, hf, k', ln', by omega, h3, h4, h, hR⟩, ?_⟩
  rw [left_eq h.p, hl]
  omega
theorem index_spec1 (c : UInt8) : ∀ l : List UInt8, (Lib.indexByte l c = -1 ∧ ∀ j : Nat, l[j]? ≠ some c) ∨ ∃ i : Nat, Lib.indexByte l c = i ∧ l[i]? = some c ∧ ∀ j : Nat, j < i → l[j]? ≠ some c
  | [] => Or.inl ⟨rfl, fun j => by simp⟩
  | b :: l => by
    unfold Lib.indexByte
    by_cases hb : b = c
    · subst hb
      exact Or.inr ⟨0, by simp, by simp, fun j hj => by omega⟩
    · have hb' : (b == c) = false := by simpa using hb
      rw [hb']
      rcases index_spec1 c l with ⟨h1, h2⟩ | ⟨i, h1, h2, h3⟩
      · refine Or.inl ⟨by simp [h1], fun j => ?_⟩
        cases j with
        | zero => simpa using hb
        | succ j => simpa using h2 j
      · refine Or.inr ⟨i + 1, ?_, by simpa using h2, fun j hj => ?_⟩
        · have hn : (Lib.indexByte l c == -1) = false := by rw [h1]; exact beq_eq_false_iff_ne.2 (by omega)
          rw [hn, h1]
          simp
        · cases j with
          | zero => simpa using hb
          | succ j => simpa using h3 j (by omega)
theorem tail_at (s : ByteArray) (a j : Nat) : (s.extract a s.size).data.toList[j]? = s.data.toList[a + j]? := by
  rw [Lib.extract_data, List.take_of_length_le (by rw [List.length_drop, ← Lib.size_eq]; exact Nat.le_refl _), List.getElem?_drop]
theorem at_byt (s : ByteArray) (k : Nat) (h : k < s.size) (c : UInt8) : s.data.toList[k]? = some c ↔ byt s k = c.toNat := by
  have h' : k < s.data.toList.length := by rw [← Lib.size_eq]; exact h
  rw [List.getElem?_eq_getElem h', Option.some.injEq]
  have e : s.data.toList[k] = s.get! k := by
    rw [get!_eq s k h]
    rfl
  rw [e]
  unfold byt
  exact UInt8.toNat_inj.symm
/-- strings.IndexByte at what is left of the text: the first place at or behind k that holds c. -/
theorem index_at (s : ByteArray) (k : Nat) (c : UInt8) : (Lib.indexByte (s.extract k s.size).data.toList c = -1 ∧ ∀ j, k ≤ j → j < s.size → ¬ byt s j = c.toNat) ∨ ∃ i : Nat, Lib.indexByte (s.extract k s.size).data.toList c = i ∧ k + i < s.size ∧ byt s (k + i) = c.toNat ∧ ∀ j, k ≤ j → j < k + i → ¬ byt s j = c.toNat := by
  rcases index_spec1 c (s.extract k s.size).data.toList with ⟨h1, h2⟩ | ⟨i, h1, h2, h3⟩
  · refine Or.inl ⟨h1, fun j hj hlt he => ?_⟩
    have := h2 (j - k)
    rw [tail_at, show k + (j - k) = j by omega] at this
    exact this ((at_byt s j hlt c).2 he)
  · rw [tail_at] at h2
    have hlt : k + i < s.size := by
      rcases Nat.lt_or_ge (k + i) s.size with x | x
      · exact x
      · rw [List.getElem?_eq_none (by rw [← Lib.size_eq]; exact x)] at h2
        cases h2
    refine Or.inr ⟨i, h1, hlt, (at_byt s _ hlt c).1 h2, fun j hj hji he => ?_⟩
    have := h3 (j - k) (by omega)
    rw [tail_at, show k + (j - k) = j by omega] at this
    exact this ((at_byt s j (by omega) c).2 he)
theorem index_hash (s : ByteArray) (k : Nat) (hk : k < s.size) : ∃ x : Int, Lib.indexByte (s.extract k s.size).data.toList 10 = x ∧ ((x = -1 ∧ skipC s (s.size - k) k = s.size) ∨ ∃ j : Nat, x = j ∧ k + j < s.size ∧ skipC s (s.size - k) k = k + j) := by
  rcases index_at s k 10 with ⟨h1, h2⟩ | ⟨i, h1, h2, h3, h4⟩
  · exact ⟨_, h1, Or.inl ⟨rfl, skipC_eq s (by omega) (Nat.le_refl _) h2 (fun h => by omega)⟩⟩
  · exact ⟨_, h1, Or.inr ⟨i, rfl, h2, skipC_eq s (by omega) (by omega) h4 (fun _ => h3)⟩⟩
end Go.Proofs.Qxb6002438aDoor
