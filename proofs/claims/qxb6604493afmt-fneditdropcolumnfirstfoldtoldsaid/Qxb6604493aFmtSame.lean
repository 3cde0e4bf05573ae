/-
  Plain layer under strings.EqualFold: texts that differ in the case of ASCII letters alone decode alike, rune by rune. No model's run here.
-/
import Derived.Lib.TrimU
import Derived.Laws.RangeAny
namespace Go.Proofs.Qxb6604493aFmt
open Go.Lib

def lowr (b : Nat) : Nat := if 65 ≤ b ∧ b ≤ 90 then b + 32 else b
/-- The bytes differ at most in the case of ASCII letters. -/
def Same (s t : ByteArray) : Prop := s.size = t.size ∧ ∀ j, j < s.size → lowr (s.get! j).toNat = lowr (t.get! j).toNat
def Asc (s : ByteArray) : Prop := ∀ j, j < s.size → (s.get! j).toNat < 128
/-- Both ASCII, and not the same up to case. -/
def Diff (s t : ByteArray) : Prop := Asc s ∧ Asc t ∧ ¬ Same s t

theorem Same.refl (s : ByteArray) : Same s s := ⟨rfl, fun _ _ => rfl⟩

theorem lowr_cases {b c : Nat} (h : lowr b = lowr c) : (b < 128 ∧ c < 128) ∨ (128 ≤ b ∧ c = b) := by
  unfold lowr at h
  split at h <;> split at h <;> omega

theorem decodeN_width (n b0 b1 b2 b3 : Nat) (hn : 1 ≤ n) : (decodeN n b0 b1 b2 b3).2 ≤ n := by
  unfold decodeN
  repeat' split
  all_goals simp
  all_goals omega

theorem decodeN_same (n b0 b1 b2 b3 c0 c1 c2 c3 : Nat) (h0 : lowr b0 = lowr c0) (h1 : 1 < n → lowr b1 = lowr c1) (h2 : 2 < n → lowr b2 = lowr c2) (h3 : 3 < n → lowr b3 = lowr c3) :
    (decodeN n b0 b1 b2 b3).2 = (decodeN n c0 c1 c2 c3).2 ∧
      ((decodeN n b0 b1 b2 b3).1 = (decodeN n c0 c1 c2 c3).1 ∨ (b0 < 128 ∧ c0 < 128 ∧ (decodeN n b0 b1 b2 b3).1 = b0 ∧ (decodeN n c0 c1 c2 c3).1 = c0)) := by
  rcases lowr_cases h0 with ⟨hb, hc⟩ | ⟨hb, rfl⟩
  · have e1 : decodeN n b0 b1 b2 b3 = (b0, 1) := by unfold decodeN; rw [if_pos hb]
    have e2 : decodeN n c0 c1 c2 c3 = (c0, 1) := by unfold decodeN; rw [if_pos hc]
    rw [e1, e2]
    exact ⟨rfl, Or.inr ⟨hb, hc, rfl, rfl⟩⟩
  · have k : ∀ {i b c : Nat}, (i < n → lowr b = lowr c) → ((i < n ∧ b / 64 = 2) ∧ c = b) ∨ (¬ (i < n ∧ b / 64 = 2) ∧ ¬ (i < n ∧ c / 64 = 2)) := by
      intro i b c h
      by_cases hi : i < n
      · rcases lowr_cases (h hi) with ⟨x, y⟩ | ⟨x, rfl⟩
        · exact Or.inr ⟨fun z => by omega, fun z => by omega⟩
        · by_cases z : c / 64 = 2
          · exact Or.inl ⟨⟨hi, z⟩, rfl⟩
          · exact Or.inr ⟨fun a => z a.2, fun a => z a.2⟩
      · exact Or.inr ⟨fun a => hi a.1, fun a => hi a.1⟩
    have e : decodeN n c0 b1 b2 b3 = decodeN n c0 c1 c2 c3 := by
      rcases k h1 with ⟨p1, rfl⟩ | ⟨p1, q1⟩ <;> rcases k h2 with ⟨p2, rfl⟩ | ⟨p2, q2⟩ <;> rcases k h3 with ⟨p3, rfl⟩ | ⟨p3, q3⟩ <;> simp only [decodeN, *] <;> simp
    rw [e]
    exact ⟨rfl, Or.inl rfl⟩

/-- From place pos of s on, s is t up to the case of ASCII letters. -/
def SameAt (s : ByteArray) (pos : Nat) (t : ByteArray) : Prop := pos ≤ s.size ∧ s.size - pos = t.size ∧ ∀ j, j < t.size → lowr (s.get! (pos + j)).toNat = lowr (t.get! j).toNat

theorem decode_width (t : ByteArray) (h : 0 < t.size) : (Utf8.decode t 0).2 ≤ t.size := by
  rw [decode_at]
  exact decodeN_width _ _ _ _ _ (by omega)

theorem decode_same {s t : ByteArray} {pos : Nat} (h : SameAt s pos t) (hp : pos < s.size) :
    (Utf8.decode s pos).2 = (Utf8.decode t 0).2 ∧
      ((Utf8.decode s pos).1 = (Utf8.decode t 0).1 ∨ ((Utf8.decode s pos).1 < 128 ∧ (Utf8.decode t 0).1 < 128 ∧ lowr (Utf8.decode s pos).1 = lowr (Utf8.decode t 0).1)) := by
  obtain ⟨h1, h2, h3⟩ := h
  rw [decode_at, decode_at, Nat.sub_zero, h2]
  have b0 : lowr (s.get! pos).toNat = lowr (t.get! 0).toNat := h3 0 (by omega)
  obtain ⟨a, b⟩ := decodeN_same t.size _ (s.get! (pos + 1)).toNat (s.get! (pos + 2)).toNat (s.get! (pos + 3)).toNat _ (t.get! (0 + 1)).toNat (t.get! (0 + 2)).toNat (t.get! (0 + 3)).toNat b0 (fun h => h3 1 h) (fun h => h3 2 h) (fun h => h3 3 h)
  refine ⟨a, ?_⟩
  rcases b with b | ⟨x, y, e1, e2⟩
  · exact Or.inl b
  · exact Or.inr ⟨by rw [e1]; exact x, by rw [e2]; exact y, by rw [e1, e2]; exact b0⟩

theorem get!_eq (s : ByteArray) (j : Nat) (h : j < s.size) : s.get! j = s[j] := Go.get_at s j h

theorem get!_extract (t : ByteArray) (d j : Nat) (h : d + j < t.size) : (t.extract d t.size).get! j = t.get! (d + j) := by
  have h1 : j < (t.extract d t.size).size := by simp; omega
  rw [get!_eq _ j h1, get!_eq t (d + j) h]
  simp [ByteArray.getElem_extract]

theorem sameAt_step {s t : ByteArray} {pos d : Nat} (h : SameAt s pos t) (hd : d ≤ t.size) : SameAt s (pos + d) (t.extract d t.size) := by
  obtain ⟨h1, h2, h3⟩ := h
  refine ⟨by omega, by simp; omega, fun j hj => ?_⟩
  have hj' : d + j < t.size := by simp at hj; omega
  rw [get!_extract t d j hj', Nat.add_assoc]
  exact h3 (d + j) hj'

theorem sameAt_start {s t : ByteArray} (h : Same s t) (k : Nat) (hk : k ≤ s.size) : SameAt (s.extract k s.size) 0 (t.extract k t.size) := by
  obtain ⟨h1, h2⟩ := h
  refine ⟨Nat.zero_le _, by simp; omega, fun j hj => ?_⟩
  have hj' : k + j < t.size := by simp at hj; omega
  rw [get!_extract t k j hj', Nat.zero_add, get!_extract s k j (by omega)]
  exact h2 (k + j) (by omega)
end Go.Proofs.Qxb6604493aFmt
