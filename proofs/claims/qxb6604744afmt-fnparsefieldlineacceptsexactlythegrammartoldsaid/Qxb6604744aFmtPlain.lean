/-
  The plain law: no Go here. Texts are lists of bytes.
-/
import Derived.Lib.SlTrimSet
import Derived.Lib.IndexLaws
namespace Go.Proofs.Qxb6604744aFmt
open Go.Lib

def marks : List Nat := [33, 35, 36, 37, 38, 39, 42, 43, 45, 46, 94, 95, 96, 124, 126]
/-- A byte of an HTTP token. -/
def tok (x : Nat) : Prop := (97 ≤ x ∧ x ≤ 122) ∨ (65 ≤ x ∧ x ≤ 90) ∨ (48 ≤ x ∧ x ≤ 57) ∨ x ∈ marks
/-- A control character other than a tab. -/
def ctl (x : Nat) : Prop := (x < 32 ∧ x ≠ 9) ∨ x = 127
/-- A space or a tab. -/
def wsp (x : Nat) : Prop := x = 32 ∨ x = 9
def cuts : List UInt8 := [32, 9]

theorem tok_colon : ¬ tok 58 := by unfold tok marks; decide
theorem cuts_iff (b : UInt8) : cuts.contains b = true ↔ wsp b.toNat := by
  unfold cuts wsp
  simp only [List.contains_cons, List.contains_nil, Bool.or_false, Bool.or_eq_true, beq_iff_eq]
  constructor
  · rintro (h | h) <;> rw [h] <;> simp
  · rintro (h | h)
    · exact Or.inl (UInt8.toNat_inj.1 h)
    · exact Or.inr (UInt8.toNat_inj.1 h)
theorem cuts_not (b : UInt8) : cuts.contains b = false ↔ ¬ wsp b.toNat := by
  rw [← cuts_iff]
  cases cuts.contains b <;> simp

/-- What Field.Check asks. -/
def Chk (n v : List UInt8) : Prop := (n ≠ [] ∧ ∀ b ∈ n, tok b.toNat) ∧ trimS v cuts = v ∧ ∀ b ∈ v, ¬ ctl b.toNat

theorem trim_all (l : List UInt8) (h : ∀ (j : Nat) b, l[j]? = some b → cuts.contains b = true) : trimS l cuts = [] := by
  have e : trimRightS l cuts = l.take 0 := trimRightS_take l cuts 0 (Nat.zero_le _) (fun j b _ hb => h j b hb) (fun b h0 => by omega)
  unfold trimS
  rw [e]
  rfl

theorem trim_mid (l : List UInt8) (lo hi : Nat) (hlo : lo ≤ hi) (hhi : hi ≤ l.length) (h1 : ∀ (j : Nat) b, j < lo → l[j]? = some b → cuts.contains b = true) (h2 : ∀ (j : Nat) b, hi ≤ j → l[j]? = some b → cuts.contains b = true)
    (h3 : lo < hi → (∀ b, l[lo]? = some b → cuts.contains b = false) ∧ ∀ b, l[hi - 1]? = some b → cuts.contains b = false) : trimS l cuts = (l.take hi).drop lo := by
  by_cases h : lo < hi
  · obtain ⟨h4, h5⟩ := h3 h
    have e : trimRightS l cuts = l.take hi := trimRightS_take l cuts hi hhi h2 (fun b _ hb => h5 b hb)
    unfold trimS
    rw [e]
    refine trimLeftS_drop _ cuts lo (by simp; omega) (fun j b hj hb => ?_) (fun b hb => ?_)
    · rw [List.getElem?_take_of_lt (by omega)] at hb
      exact h1 j b hj hb
    · rw [List.getElem?_take_of_lt (by omega)] at hb
      exact h4 b hb
  · obtain rfl : lo = hi := by omega
    rw [trim_all l (fun j b hb => by
      by_cases hj : j < lo
      · exact h1 j b hj hb
      · exact h2 j b (by omega) hb)]
    simp

theorem dropWhile_self {p : UInt8 → Bool} {l : List UInt8} (h : l.dropWhile p = l) : ∀ b, l[0]? = some b → p b = false := by
  intro b hb
  cases l with
  | nil => cases hb
  | cons x t =>
    simp at hb
    subst hb
    cases hp : p x with
    | false => rfl
    | true =>
      rw [List.dropWhile_cons_of_pos hp] at h
      have := congrArg List.length h
      have h2 := (List.dropWhile_sublist (l := t) p).length_le
      rw [this] at h2
      simp at h2
      omega

theorem trim_self (v : List UInt8) : trimS v cuts = v ↔ (∀ b, v[0]? = some b → cuts.contains b = false) ∧ ∀ b, v[v.length - 1]? = some b → cuts.contains b = false := by
  constructor
  · intro h
    have l1 : (trimRightS v cuts).length ≤ v.length := by
      unfold trimRightS
      have := (List.dropWhile_sublist (l := v.reverse) (cuts.contains ·)).length_le
      simpa using this
    have l2 : (trimS v cuts).length ≤ (trimRightS v cuts).length := by
      unfold trimS trimLeftS
      exact (List.dropWhile_sublist _).length_le
    rw [h] at l2
    have e1 : v.reverse.dropWhile (cuts.contains ·) = v.reverse := by
      refine (List.dropWhile_sublist _).eq_of_length ?_
      have : (trimRightS v cuts).length = v.length := by omega
      unfold trimRightS at this
      simpa using this
    have e2 : trimRightS v cuts = v := by unfold trimRightS; rw [e1, List.reverse_reverse]
    have e3 : v.dropWhile (cuts.contains ·) = v := by
      have : trimS v cuts = v.dropWhile (cuts.contains ·) := by unfold trimS; rw [e2]; rfl
      rw [← this, h]
    refine ⟨dropWhile_self e3, fun b hb => dropWhile_self e1 b ?_⟩
    by_cases hv : 0 < v.length
    · rw [List.getElem?_reverse hv]
      simpa using hb
    · have : v = [] := List.length_eq_zero_iff.1 (by omega)
      subst this
      cases hb
  · rintro ⟨h1, h2⟩
    rw [trim_mid v 0 v.length (Nat.zero_le _) (Nat.le_refl _) (fun j b hj => by omega) (fun j b hj hb => by rw [List.getElem?_eq_none hj] at hb; cases hb) (fun _ => ⟨h1, h2⟩)]
    simp

theorem trim_idem (v : List UInt8) : ∃ lo hi, lo ≤ hi ∧ hi ≤ v.length ∧ trimS v cuts = (v.take hi).drop lo ∧ (∀ (j : Nat) b, j < lo → v[j]? = some b → cuts.contains b = true) ∧ (∀ (j : Nat) b, hi ≤ j → v[j]? = some b → cuts.contains b = true) ∧
    (lo < hi → (∀ b, v[lo]? = some b → cuts.contains b = false) ∧ ∀ b, v[hi - 1]? = some b → cuts.contains b = false) := by
  have low : ∀ (l : List UInt8), ∃ lo, lo ≤ l.length ∧ (∀ (j : Nat) b, j < lo → l[j]? = some b → cuts.contains b = true) ∧ ∀ b, l[lo]? = some b → cuts.contains b = false := by
    intro l
    induction l with
    | nil => exact ⟨0, Nat.le_refl _, fun j b hj => by omega, fun b hb => by cases hb⟩
    | cons x t ih =>
      obtain ⟨lo, h0, h1, h2⟩ := ih
      cases hx : cuts.contains x with
      | false => exact ⟨0, Nat.zero_le _, fun j b hj => by omega, fun b hb => by simp at hb; subst hb; exact hx⟩
      | true =>
        refine ⟨lo + 1, by simp; omega, fun j b hj hb => ?_, fun b hb => by simp at hb; exact h2 b hb⟩
        cases j with
        | zero => simp at hb; subst hb; exact hx
        | succ j => simp at hb; exact h1 j b (by omega) hb
  have high : ∀ (l : List UInt8) (m : Nat), m ≤ l.length → ∃ hi, m ≤ hi ∧ hi ≤ l.length ∧ (∀ (j : Nat) b, hi ≤ j → l[j]? = some b → cuts.contains b = true) ∧ (m < hi → ∀ b, l[hi - 1]? = some b → cuts.contains b = false) := by
    intro l m hm
    have go : ∀ d hi, hi = m + d → hi ≤ l.length → (∀ (j : Nat) b, hi ≤ j → l[j]? = some b → cuts.contains b = true) → ∃ hi, m ≤ hi ∧ hi ≤ l.length ∧ (∀ (j : Nat) b, hi ≤ j → l[j]? = some b → cuts.contains b = true) ∧ (m < hi → ∀ b, l[hi - 1]? = some b → cuts.contains b = false) := by
      intro d
      induction d with
      | zero => exact fun hi e h1 h2 => ⟨hi, by omega, h1, h2, fun h => by omega⟩
      | succ d ih =>
        intro hi e h1 h2
        have hx : l[hi - 1]? = some (l[hi - 1]'(by omega)) := List.getElem?_eq_getElem _
        cases hc : cuts.contains (l[hi - 1]'(by omega)) with
        | false => exact ⟨hi, by omega, h1, h2, fun _ b hb => by rw [hx] at hb; cases hb; exact hc⟩
        | true =>
          refine ih (hi - 1) (by omega) (by omega) (fun j b hj hb => ?_)
          by_cases hjj : j = hi - 1
          · subst hjj; rw [hx] at hb; cases hb; exact hc
          · exact h2 j b (by omega) hb
    exact go (l.length - m) l.length (by omega) (Nat.le_refl _) (fun j b hj hb => by rw [List.getElem?_eq_none hj] at hb; cases hb)
  obtain ⟨lo, a0, a1, a2⟩ := low v
  obtain ⟨hi, b0, b1, b2, b3⟩ := high v lo a0
  exact ⟨lo, hi, b0, b1, trim_mid v lo hi b0 b1 a1 b2 (fun h => ⟨a2, b3 h⟩), a1, b2, fun h => ⟨a2, b3 h⟩⟩

theorem trim_chk (v : List UInt8) : trimS (trimS v cuts) cuts = trimS v cuts := by
  obtain ⟨lo, hi, h0, h1, e, _, _, h3⟩ := trim_idem v
  rw [trim_self, e]
  by_cases h : lo < hi
  · obtain ⟨h4, h5⟩ := h3 h
    constructor
    · intro b hb
      rw [List.getElem?_drop, List.getElem?_take_of_lt (by omega)] at hb
      exact h4 b (by simpa using hb)
    · intro b hb
      have hl : ((v.take hi).drop lo).length = hi - lo := by simp; omega
      rw [hl, List.getElem?_drop, List.getElem?_take_of_lt (by omega), show lo + (hi - lo - 1) = hi - 1 by omega] at hb
      exact h5 b hb
  · have : (v.take hi).drop lo = [] := by apply List.drop_eq_nil_of_le; simp; omega
    rw [this]
    exact ⟨fun b hb => by simp at hb, fun b hb => by simp at hb⟩

/-- The line that the law writes reads back as the field. -/
theorem trim_pad (v : List UInt8) (h : trimS v cuts = v) : trimS (32 :: (v ++ [32, 9])) cuts = v := by
  obtain ⟨h1, h2⟩ := (trim_self v).1 h
  have c1 : cuts.contains (32 : UInt8) = true := by decide
  have c2 : cuts.contains (9 : UInt8) = true := by decide
  by_cases hv : v = []
  · subst hv
    decide
  have hl : 0 < v.length := List.length_pos_iff.2 hv
  rw [trim_mid _ 1 (v.length + 1) (by omega) (by simp) ?_ ?_ ?_]
  · simp
  · intro j b hj hb
    obtain rfl : j = 0 := by omega
    simp at hb
    subst hb
    exact c1
  · intro j b hj hb
    obtain ⟨k, rfl⟩ : ∃ k, j = v.length + k + 1 := ⟨j - v.length - 1, by omega⟩
    rw [List.getElem?_cons_succ, List.getElem?_append_right (by omega), show v.length + k - v.length = k by omega] at hb
    rcases k with _ | _ | k
    · simp at hb; subst hb; exact c1
    · simp at hb; subst hb; exact c2
    · simp at hb
  · intro _
    refine ⟨fun b hb => h1 b ?_, fun b hb => h2 b ?_⟩
    · rw [List.getElem?_cons_succ, List.getElem?_append_left hl] at hb
      exact hb
    · rw [show v.length + 1 - 1 = (v.length - 1) + 1 by omega, List.getElem?_cons_succ, List.getElem?_append_left (by omega)] at hb
      exact hb

theorem index_line (n r : List UInt8) (h : ∀ b ∈ n, tok b.toNat) : indexByte (n ++ 58 :: r) 58 = (n.length : Int) := by
  induction n with
  | nil => simp [indexByte]
  | cons x t ih =>
    have hx : (x == 58) = false := by
      rw [beq_eq_false_iff_ne]
      intro e
      have := h x (List.mem_cons_self ..)
      rw [e] at this
      exact tok_colon this
    have := ih (fun b hb => h b (List.mem_cons_of_mem _ hb))
    simp only [List.cons_append, indexByte, hx, this]
    have e : ((t.length : Int) == -1) = false := by rw [beq_eq_false_iff_ne]; omega
    simp [e]
end Go.Proofs.Qxb6604744aFmt
