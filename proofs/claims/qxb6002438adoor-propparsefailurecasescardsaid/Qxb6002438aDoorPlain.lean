/-
  The plain law: no Go here. The scanner of scripts as a machine with a stack of lines.
-/
import Derived.WalkKit
namespace Go.Proofs.Qxb6002438aDoor

/-- The byte at i (0 beyond the end). -/
def byt (s : ByteArray) (i : Nat) : Nat := (s.get! i).toNat
def isNl (c : Nat) : Prop := c = 10
def isDelim (c : Nat) : Prop := c = 32 ∨ c = 9 ∨ c = 10 ∨ c = 123 ∨ c = 125 ∨ c = 124 ∨ c = 39

/-- From i to the first byte that is a newline, or the end. -/
def skipC (s : ByteArray) : Nat → Nat → Nat
  | 0, i => i
  | f + 1, i => if i < s.size ∧ ¬ byt s i = 10 then skipC s f (i + 1) else i
/-- From i to the first byte that ends a word, or the end. -/
def skipW (s : ByteArray) : Nat → Nat → Nat
  | 0, i => i
  | f + 1, i => if i < s.size ∧ ¬ (byt s i = 32 ∨ byt s i = 9 ∨ byt s i = 10 ∨ byt s i = 123 ∨ byt s i = 125 ∨ byt s i = 124 ∨ byt s i = 39) then skipW s f (i + 1) else i
/-- Behind an opening quote: where the quoted word ends, and how many newlines it holds; none: it is never closed. -/
def quoteF (s : ByteArray) : Nat → Nat → Nat → Option (Nat × Nat)
  | 0, _, _ => none
  | f + 1, j, nl => if j < s.size then (if byt s j = 39 then (if j + 1 < s.size ∧ byt s (j + 1) = 39 then quoteF s f (j + 2) nl else some (j + 1, nl)) else quoteF s f (j + 1) (if byt s j = 10 then nl + 1 else nl)) else none

def stepR (s : ByteArray) (R : Nat → Nat → List Nat → Option Nat) (i line : Nat) (st : List Nat) : Option Nat :=
  if i < s.size then
    if byt s i = 32 ∨ byt s i = 9 then R (i + 1) line st
    else if byt s i = 10 then R (i + 1) (line + 1) st
    else if byt s i = 35 then R (skipC s (s.size - i) i) line st
    else if byt s i = 124 then (match st with | [] => some line | _ :: _ => R (i + 1) line st)
    else if byt s i = 125 then (match st with | [] => some line | _ :: t => R (i + 1) line t)
    else if byt s i = 123 then R (i + 1) line (line :: st)
    else if byt s i = 39 then (match quoteF s (s.size + 1 - i) (i + 1) 0 with | none => some line | some (j, nl) => R j (line + nl) st)
    else R (skipW s (s.size - i) i) line st
  else match st with | [] => none | t :: _ => some t
def runF (s : ByteArray) : Nat → Nat → Nat → List Nat → Option Nat
  | 0 => fun _ _ _ => none
  | f + 1 => stepR s (runF s f)
/-- What becomes of a script from position i, at 'line', inside the open braces 'st' (each by its line, the innermost first): none: it parses; else the line of the mistake. -/
def R (s : ByteArray) (i line : Nat) (st : List Nat) : Option Nat := runF s (s.size + 1 - i) i line st

theorem skipC_spec (s : ByteArray) : ∀ (f i : Nat), i ≤ s.size → s.size - i ≤ f → i ≤ skipC s f i ∧ skipC s f i ≤ s.size ∧ (∀ k, i ≤ k → k < skipC s f i → ¬ byt s k = 10) ∧ (skipC s f i < s.size → byt s (skipC s f i) = 10)
  | 0, i, h1, h2 => by
    simp only [skipC]
    exact ⟨Nat.le_refl _, h1, fun k _ _ => by omega, fun h => by omega⟩
  | f + 1, i, h1, h2 => by
    simp only [skipC]
    by_cases h : i < s.size ∧ ¬ byt s i = 10
    · rw [if_pos h]
      obtain ⟨a, b, c, d⟩ := skipC_spec s f (i + 1) (by omega) (by omega)
      refine ⟨by omega, b, fun k hk1 hk2 => ?_, d⟩
      by_cases e : k = i
      · subst e; exact h.2
      · exact c k (by omega) hk2
    · rw [if_neg h]
      refine ⟨Nat.le_refl _, h1, fun k _ _ => by omega, fun hlt => ?_⟩
      by_cases e : byt s i = 10
      · exact e
      · exact absurd ⟨hlt, e⟩ h
theorem skipC_eq (s : ByteArray) {i j : Nat} (h1 : i ≤ j) (h2 : j ≤ s.size) (h3 : ∀ k, i ≤ k → k < j → ¬ byt s k = 10) (h4 : j < s.size → byt s j = 10) : skipC s (s.size - i) i = j := by
  obtain ⟨a, b, c, d⟩ := skipC_spec s (s.size - i) i (by omega) (Nat.le_refl _)
  rcases Nat.lt_trichotomy (skipC s (s.size - i) i) j with h | h | h
  · exact absurd (d (by omega)) (h3 _ a h)
  · exact h
  · exact absurd (h4 (by omega)) (c j h1 h)
theorem skipW_spec (s : ByteArray) : ∀ (f i : Nat), i ≤ s.size → s.size - i ≤ f → i ≤ skipW s f i ∧ skipW s f i ≤ s.size ∧ (∀ k, i ≤ k → k < skipW s f i → ¬ isDelim (byt s k)) ∧ (skipW s f i < s.size → isDelim (byt s (skipW s f i)))
  | 0, i, h1, h2 => by
    simp only [skipW]
    exact ⟨Nat.le_refl _, h1, fun k _ _ => by omega, fun h => by omega⟩
  | f + 1, i, h1, h2 => by
    simp only [skipW]
    by_cases h : i < s.size ∧ ¬ (byt s i = 32 ∨ byt s i = 9 ∨ byt s i = 10 ∨ byt s i = 123 ∨ byt s i = 125 ∨ byt s i = 124 ∨ byt s i = 39)
    · rw [if_pos h]
      obtain ⟨a, b, c, d⟩ := skipW_spec s f (i + 1) (by omega) (by omega)
      refine ⟨by omega, b, fun k hk1 hk2 => ?_, d⟩
      by_cases e : k = i
      · subst e; exact h.2
      · exact c k (by omega) hk2
    · rw [if_neg h]
      refine ⟨Nat.le_refl _, h1, fun k _ _ => by omega, fun hlt => ?_⟩
      by_cases e : isDelim (byt s i)
      · exact e
      · exact absurd ⟨hlt, e⟩ h
theorem skipW_eq (s : ByteArray) {i j : Nat} (h1 : i ≤ j) (h2 : j ≤ s.size) (h3 : ∀ k, i ≤ k → k < j → ¬ isDelim (byt s k)) (h4 : j < s.size → isDelim (byt s j)) : skipW s (s.size - i) i = j := by
  obtain ⟨a, b, c, d⟩ := skipW_spec s (s.size - i) i (by omega) (Nat.le_refl _)
  rcases Nat.lt_trichotomy (skipW s (s.size - i) i) j with h | h | h
  · exact absurd (d (by omega)) (h3 _ a h)
  · exact h
  · exact absurd (h4 (by omega)) (c j h1 h)

/-- More fuel than is needed makes no difference. -/
theorem quoteF_more (s : ByteArray) : ∀ (f j nl : Nat), s.size - j < f → quoteF s (f + 1) j nl = quoteF s f j nl
  | 0, j, nl, h => by omega
  | f + 1, j, nl, h => by
    by_cases hj : j < s.size
    · have e1 := quoteF_more s f (j + 2) nl
      have e2 := quoteF_more s f (j + 1) (if byt s j = 10 then nl + 1 else nl)
      have u : ∀ g, quoteF s (g + 1) j nl = if j < s.size then (if byt s j = 39 then (if j + 1 < s.size ∧ byt s (j + 1) = 39 then quoteF s g (j + 2) nl else some (j + 1, nl)) else quoteF s g (j + 1) (if byt s j = 10 then nl + 1 else nl)) else none := fun g => rfl
      rw [u (f + 1), u f, if_pos hj, if_pos hj]
      by_cases h39 : byt s j = 39
      · rw [if_pos h39, if_pos h39]
        by_cases hq : j + 1 < s.size ∧ byt s (j + 1) = 39
        · rw [if_pos hq, if_pos hq, e1 (by omega)]
        · rw [if_neg hq, if_neg hq]
      · rw [if_neg h39, if_neg h39, e2 (by omega)]
    · simp [quoteF, hj]
theorem quoteF_any (s : ByteArray) (j nl f : Nat) (h : s.size - j < f) : quoteF s f j nl = quoteF s (s.size + 1 - j) j nl := by
  obtain ⟨d, rfl⟩ : ∃ d, f = (s.size - j + 1) + d := ⟨f - (s.size - j + 1), by omega⟩
  clear h
  have key : ∀ d, quoteF s ((s.size - j + 1) + d) j nl = quoteF s (s.size - j + 1) j nl := by
    intro d
    induction d with
    | zero => rfl
    | succ d ih => rw [← ih]; exact quoteF_more s ((s.size - j + 1) + d) j nl (by omega)
  rw [key d]
  by_cases hj : j ≤ s.size
  · rw [show s.size + 1 - j = s.size - j + 1 by omega]
  · rw [show s.size + 1 - j = 0 by omega, show s.size - j + 1 = 1 by omega]
    simp [quoteF, show ¬ j < s.size by omega]
theorem quoteF_lt (s : ByteArray) : ∀ (f j nl : Nat) {j' nl' : Nat}, quoteF s f j nl = some (j', nl') → j < j' ∧ j' ≤ s.size ∧ nl ≤ nl' ∧ nl' ≤ nl + (j' - j)
  | 0, _, _, _, _, h => by cases h
  | f + 1, j, nl, j', nl', h => by
    simp only [quoteF] at h
    by_cases hj : j < s.size
    · rw [if_pos hj] at h
      by_cases h39 : byt s j = 39
      · rw [if_pos h39] at h
        by_cases hq : j + 1 < s.size ∧ byt s (j + 1) = 39
        · rw [if_pos hq] at h
          obtain ⟨a, b, c, d⟩ := quoteF_lt s f _ _ h
          exact ⟨by omega, b, c, by omega⟩
        · rw [if_neg hq] at h
          cases h
          exact ⟨by omega, by omega, Nat.le_refl _, by omega⟩
      · rw [if_neg h39] at h
        obtain ⟨a, b, c, d⟩ := quoteF_lt s f _ _ h
        refine ⟨by omega, b, ?_, ?_⟩
        · split at c <;> omega
        · split at d <;> omega
    · rw [if_neg hj] at h
      cases h

theorem stepR_congr (s : ByteArray) (R1 R2 : Nat → Nat → List Nat → Option Nat) (i : Nat) (h : ∀ i' l st, i < i' → i' ≤ s.size → R1 i' l st = R2 i' l st) (line : Nat) (st : List Nat) : stepR s R1 i line st = stepR s R2 i line st := by
  unfold stepR
  by_cases hi : i < s.size
  · rw [if_pos hi, if_pos hi]
    have n1 : ∀ l st, R1 (i + 1) l st = R2 (i + 1) l st := fun l st => h _ l st (by omega) (by omega)
    by_cases c1 : byt s i = 32 ∨ byt s i = 9
    · rw [if_pos c1, if_pos c1, n1]
    rw [if_neg c1, if_neg c1]
    by_cases c2 : byt s i = 10
    · rw [if_pos c2, if_pos c2, n1]
    rw [if_neg c2, if_neg c2]
    by_cases c3 : byt s i = 35
    · rw [if_pos c3, if_pos c3]
      obtain ⟨a, b, c, d⟩ := skipC_spec s (s.size - i) i (by omega) (Nat.le_refl _)
      have : i < skipC s (s.size - i) i := by
        rcases Nat.lt_or_ge i (skipC s (s.size - i) i) with x | x
        · exact x
        · have e : skipC s (s.size - i) i = i := by omega
          rw [e] at d
          exact absurd (d hi) c2
      exact h _ _ _ this b
    rw [if_neg c3, if_neg c3]
    by_cases c4 : byt s i = 124
    · rw [if_pos c4, if_pos c4]
      cases st with
      | nil => rfl
      | cons t r => exact n1 _ _
    rw [if_neg c4, if_neg c4]
    by_cases c5 : byt s i = 125
    · rw [if_pos c5, if_pos c5]
      cases st with
      | nil => rfl
      | cons t r => exact n1 _ _
    rw [if_neg c5, if_neg c5]
    by_cases c6 : byt s i = 123
    · rw [if_pos c6, if_pos c6, n1]
    rw [if_neg c6, if_neg c6]
    by_cases c7 : byt s i = 39
    · rw [if_pos c7, if_pos c7]
      cases hq : quoteF s (s.size + 1 - i) (i + 1) 0 with
      | none => rfl
      | some p =>
        obtain ⟨j, nl⟩ := p
        obtain ⟨a, b, _, _⟩ := quoteF_lt s _ _ _ hq
        exact h _ _ _ (by omega) b
    rw [if_neg c7, if_neg c7]
    obtain ⟨a, b, c, d⟩ := skipW_spec s (s.size - i) i (by omega) (Nat.le_refl _)
    have : i < skipW s (s.size - i) i := by
      rcases Nat.lt_or_ge i (skipW s (s.size - i) i) with x | x
      · exact x
      · have e : skipW s (s.size - i) i = i := by omega
        rw [e] at d
        have dd := d hi
        unfold isDelim at dd
        omega
    exact h _ _ _ this b
  · rw [if_neg hi, if_neg hi]

theorem runF_two (s : ByteArray) : ∀ (f g i line : Nat) (st : List Nat), i ≤ s.size → s.size + 1 - i ≤ f → s.size + 1 - i ≤ g → runF s f i line st = runF s g i line st
  | 0, _, i, _, _, h, h2, _ => by omega
  | _ + 1, 0, i, _, _, h, _, h3 => by omega
  | f + 1, g + 1, i, line, st, h, h2, h3 => stepR_congr s _ _ i (fun i' l st' h1 h4 => runF_two s f g i' l st' h4 (by omega) (by omega)) line st
theorem runF_any (s : ByteArray) (f i line : Nat) (st : List Nat) (h : i ≤ s.size) (h2 : s.size + 1 - i ≤ f) : runF s f i line st = R s i line st :=
  runF_two s f _ i line st h h2 (Nat.le_refl _)
theorem R_step (s : ByteArray) (i line : Nat) (st : List Nat) (h : i ≤ s.size) : R s i line st = stepR s (R s) i line st := by
  unfold R
  obtain ⟨g, hg⟩ : ∃ g, s.size + 1 - i = g + 1 := ⟨s.size - i, by omega⟩
  rw [hg]
  show stepR s (runF s g) i line st = _
  exact stepR_congr s _ _ i (fun i' l st' h1 h3 => runF_any s g i' l st' h3 (by omega)) line st
end Go.Proofs.Qxb6002438aDoor
