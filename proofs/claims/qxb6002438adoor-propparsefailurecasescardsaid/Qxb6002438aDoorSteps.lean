/-
  The machine's steps, one by one.
-/
import Derived.Test.Qxb6002438aDoorSkip
namespace Go.Proofs.Qxb6002438aDoor

theorem quo_of (s : ByteArray) (i : Nat) (h : i < s.size) : quoteF s (s.size + 1 - i) (i + 1) 0 = quo s (i + 1) 0 := quoteF_any s (i + 1) 0 _ (by omega)
theorem R_end_nil (s : ByteArray) (line : Nat) : R s s.size line [] = none := by rw [R_step s _ _ _ (Nat.le_refl _)]; simp [stepR]
theorem R_end_cons (s : ByteArray) (line t : Nat) (st : List Nat) : R s s.size line (t :: st) = some t := by rw [R_step s _ _ _ (Nat.le_refl _)]; simp [stepR]
section
variable {s : ByteArray} {i line : Nat} {st : List Nat}
theorem R_blank (h : i < s.size) (hc : byt s i = 32 ∨ byt s i = 9) : R s i line st = R s (i + 1) line st := by
  rw [R_step s _ _ _ (Nat.le_of_lt h)]
  unfold stepR
  rw [if_pos h, if_pos hc]
theorem R_nl (h : i < s.size) (hc : byt s i = 10) : R s i line st = R s (i + 1) (line + 1) st := by
  rw [R_step s _ _ _ (Nat.le_of_lt h)]
  unfold stepR
  rw [if_pos h, if_neg (by omega), if_pos hc]
theorem R_hash (h : i < s.size) (hc : byt s i = 35) : R s i line st = R s (skipC s (s.size - i) i) line st := by
  rw [R_step s _ _ _ (Nat.le_of_lt h)]
  unfold stepR
  rw [if_pos h, if_neg (by omega), if_neg (by omega), if_pos hc]
theorem R_pipe_nil (h : i < s.size) (hc : byt s i = 124) : R s i line [] = some line := by
  rw [R_step s _ _ _ (Nat.le_of_lt h)]
  unfold stepR
  rw [if_pos h, if_neg (by omega), if_neg (by omega), if_neg (by omega), if_pos hc]
theorem R_pipe_cons (h : i < s.size) (hc : byt s i = 124) (t : Nat) : R s i line (t :: st) = R s (i + 1) line (t :: st) := by
  rw [R_step s _ _ _ (Nat.le_of_lt h)]
  unfold stepR
  rw [if_pos h, if_neg (by omega), if_neg (by omega), if_neg (by omega), if_pos hc]
theorem R_close_nil (h : i < s.size) (hc : byt s i = 125) : R s i line [] = some line := by
  rw [R_step s _ _ _ (Nat.le_of_lt h)]
  unfold stepR
  rw [if_pos h, if_neg (by omega), if_neg (by omega), if_neg (by omega), if_neg (by omega), if_pos hc]
theorem R_close_cons (h : i < s.size) (hc : byt s i = 125) (t : Nat) : R s i line (t :: st) = R s (i + 1) line st := by
  rw [R_step s _ _ _ (Nat.le_of_lt h)]
  unfold stepR
  rw [if_pos h, if_neg (by omega), if_neg (by omega), if_neg (by omega), if_neg (by omega), if_pos hc]
theorem R_open (h : i < s.size) (hc : byt s i = 123) : R s i line st = R s (i + 1) line (line :: st) := by
  rw [R_step s _ _ _ (Nat.le_of_lt h)]
  unfold stepR
  rw [if_pos h, if_neg (by omega), if_neg (by omega), if_neg (by omega), if_neg (by omega), if_neg (by omega), if_pos hc]
theorem R_quote_none (h : i < s.size) (hc : byt s i = 39) (hq : quo s (i + 1) 0 = none) : R s i line st = some line := by
  rw [R_step s _ _ _ (Nat.le_of_lt h)]
  unfold stepR
  rw [if_pos h, if_neg (by omega), if_neg (by omega), if_neg (by omega), if_neg (by omega), if_neg (by omega), if_neg (by omega), if_pos hc, quo_of s i h, hq]
theorem R_quote_some (h : i < s.size) (hc : byt s i = 39) {j nl : Nat} (hq : quo s (i + 1) 0 = some (j, nl)) : R s i line st = R s j (line + nl) st := by
  rw [R_step s _ _ _ (Nat.le_of_lt h)]
  unfold stepR
  rw [if_pos h, if_neg (by omega), if_neg (by omega), if_neg (by omega), if_neg (by omega), if_neg (by omega), if_neg (by omega), if_pos hc, quo_of s i h, hq]
theorem R_word (h : i < s.size) (hc : ¬ isDelim (byt s i)) (h35 : ¬ byt s i = 35) : R s i line st = R s (skipW s (s.size - i) i) line st := by
  rw [R_step s _ _ _ (Nat.le_of_lt h)]
  unfold isDelim at hc
  unfold stepR
  rw [if_pos h, if_neg (by omega), if_neg (by omega), if_neg (by omega), if_neg (by omega), if_neg (by omega), if_neg (by omega), if_neg (by omega)]
end
theorem skipC_lt {s : ByteArray} {i : Nat} (h : i < s.size) (hc : byt s i = 35) : i < skipC s (s.size - i) i ∧ skipC s (s.size - i) i ≤ s.size := by
  obtain ⟨a, b, c, d⟩ := skipC_spec s (s.size - i) i (by omega) (Nat.le_refl _)
  refine ⟨?_, b⟩
  rcases Nat.lt_or_ge i (skipC s (s.size - i) i) with x | x
  · exact x
  · have e : skipC s (s.size - i) i = i := by omega
    rw [e] at d
    have := d h
    omega
theorem skipW_lt {s : ByteArray} {i : Nat} (h : i < s.size) (hc : ¬ isDelim (byt s i)) : i < skipW s (s.size - i) i ∧ skipW s (s.size - i) i ≤ s.size := by
  obtain ⟨a, b, c, d⟩ := skipW_spec s (s.size - i) i (by omega) (Nat.le_refl _)
  refine ⟨?_, b⟩
  rcases Nat.lt_or_ge i (skipW s (s.size - i) i) with x | x
  · exact x
  · have e : skipW s (s.size - i) i = i := by omega
    rw [e] at d
    exact absurd (d h) hc
theorem quo_lt {s : ByteArray} {j nl j' nl' : Nat} (h : quo s j nl = some (j', nl')) : j < j' ∧ j' ≤ s.size ∧ nl ≤ nl' ∧ nl' ≤ nl + (j' - j) := quoteF_lt s _ _ _ h
end Go.Proofs.Qxb6002438aDoor
