/-
  Plain layer under unicode.SimpleFold: the function that the library's text reckons over its three tables, and that iterating it comes back to where it began within four steps. No model's run here.
-/
import Derived.Lib.CaseU
namespace Go.Proofs.Qxb6604493aFmt
open Go.Lib

/-- unicode.caseOrbit, row by row: (From, To). -/
def orbT : List (Nat × Nat) := [(75, 107), (83, 115), (107, 8490), (115, 383), (181, 924), (197, 229), (223, 7838), (229, 8491), (304, 304), (305, 305), (383, 83), (452, 453), (453, 454), (454, 452), (455, 456), (456, 457), (457, 455), (458, 459), (459, 460), (460, 458), (497, 498), (498, 499), (499, 497), (837, 921), (912, 8147), (914, 946), (917, 949), (920, 952), (921, 953), (922, 954), (924, 956), (928, 960), (929, 961), (931, 962), (934, 966), (937, 969), (944, 8163), (946, 976), (949, 1013), (952, 977), (953, 8126), (954, 1008), (956, 181), (960, 982), (961, 1009), (962, 963), (963, 931), (966, 981), (969, 8486), (976, 914), (977, 1012), (981, 934), (982, 928), (1008, 922), (1009, 929), (1012, 920), (1013, 917), (1042, 1074), (1044, 1076), (1054, 1086), (1057, 1089), (1058, 1090), (1066, 1098), (1074, 7296), (1076, 7297), (1086, 7298), (1089, 7299), (1090, 7300), (1098, 7302), (1122, 1123), (1123, 7303), (7296, 1042), (7297, 1044), (7298, 1054), (7299, 1057), (7300, 7301), (7301, 1058), (7302, 1066), (7303, 1122), (7304, 42570), (7776, 7777), (7777, 7835), (7835, 7776), (7838, 223), (8126, 837), (8147, 912), (8163, 944), (8486, 937), (8490, 75), (8491, 197), (42570, 42571), (42571, 7304), (64261, 64262), (64262, 64261)]
/-- unicode.asciiFold. -/
def ascT : List Nat := [0, 1, 2, 3, 4, 5, 6, 7, 8, 9, 10, 11, 12, 13, 14, 15, 16, 17, 18, 19, 20, 21, 22, 23, 24, 25, 26, 27, 28, 29, 30, 31, 32, 33, 34, 35, 36, 37, 38, 39, 40, 41, 42, 43, 44, 45, 46, 47, 48, 49, 50, 51, 52, 53, 54, 55, 56, 57, 58, 59, 60, 61, 62, 63, 64, 97, 98, 99, 100, 101, 102, 103, 104, 105, 106, 107, 108, 109, 110, 111, 112, 113, 114, 115, 116, 117, 118, 119, 120, 121, 122, 91, 92, 93, 94, 95, 96, 65, 66, 67, 68, 69, 70, 71, 72, 73, 74, 8490, 76, 77, 78, 79, 80, 81, 82, 383, 84, 85, 86, 87, 88, 89, 90, 123, 124, 125, 126, 127]

/-- The binary search of SimpleFold over caseOrbit: the first place whose From is not below r. -/
def orbIdx (r : Nat) : Nat → Nat → Nat → Nat
  | 0, lo, _ => lo
  | f + 1, lo, hi =>
    if lo < hi then
      (if (orbT.getD ((lo + hi) / 2) (0, 0)).1 < r then orbIdx r f ((lo + hi) / 2 + 1) hi else orbIdx r f lo ((lo + hi) / 2))
    else lo

/-- What stands behind the two first tests of SimpleFold and the search in caseOrbit. -/
def sfCase (r : Nat) : Int :=
  match lookupIdx caseA (r : Int) (caseA.size + 1) 0 caseA.size with
  | some i =>
    if convertR 1 (r : Int) (caseA.getD i (0, 0, 0, 0, 0)) = (r : Int) then convertR 0 (r : Int) (caseA.getD i (0, 0, 0, 0, 0))
    else convertR 1 (r : Int) (caseA.getD i (0, 0, 0, 0, 0))
  | none => (r : Int)

/-- unicode.SimpleFold at a rune from 0 to MaxRune. -/
def sf (r : Nat) : Nat :=
  if r < 128 then ascT.getD r 0
  else if orbIdx r 95 0 94 < 94 ∧ (orbT.getD (orbIdx r 95 0 94) (0, 0)).1 = r then (orbT.getD (orbIdx r 95 0 94) (0, 0)).2
  else (sfCase r).toNat

/-- Comes back within four steps. -/
def back (r : Nat) : Bool := sf r == r || sf (sf r) == r || sf (sf (sf r)) == r || sf (sf (sf (sf r))) == r
def inR (z : Int) : Bool := decide (0 ≤ z) && decide (z ≤ 1114111)
def good (r : Nat) : Bool := back r && decide (sf r ≤ 1114111)
/-- A row of CaseRanges: at each rune of hers both conversions are runes. -/
def rowGood (x : CaseRow) : Bool := (List.range (x.2.1 + 1 - x.1)).all fun d => good (x.1 + d) && inR (convertR 1 ((x.1 + d : Nat) : Int) x) && inR (convertR 0 ((x.1 + d : Nat) : Int) x)

set_option maxRecDepth 1000000 in
theorem good_ascii : (List.range 128).all good = true := by decide +kernel
set_option maxRecDepth 1000000 in
theorem good_orbit : orbT.all (fun p => good p.1) = true := by decide +kernel
set_option maxRecDepth 1000000 in
theorem good_rows : caseT.all rowGood = true := by decide +kernel

theorem lookupIdx_some (T : Array CaseRow) (r : Int) : ∀ (f lo hi i : Nat), hi ≤ T.size → lookupIdx T r f lo hi = some i →
    i < T.size ∧ ((T.getD i (0, 0, 0, 0, 0)).1 : Int) ≤ r ∧ r ≤ ((T.getD i (0, 0, 0, 0, 0)).2.1 : Int)
  | 0, _, _, _, _, h => by simp [lookupIdx] at h
  | f + 1, lo, hi, i, hh, h => by
    simp only [lookupIdx] at h
    by_cases hlt : lo < hi
    · rw [if_pos hlt] at h
      by_cases hin : ((T.getD ((lo + hi) / 2) (0, 0, 0, 0, 0)).1 : Int) ≤ r ∧ r ≤ ((T.getD ((lo + hi) / 2) (0, 0, 0, 0, 0)).2.1 : Int)
      · rw [if_pos hin] at h
        have e : (lo + hi) / 2 = i := Option.some.inj h
        subst e
        exact ⟨by omega, hin.1, hin.2⟩
      · rw [if_neg hin] at h
        by_cases hl : r < ((T.getD ((lo + hi) / 2) (0, 0, 0, 0, 0)).1 : Int)
        · rw [if_pos hl] at h
          exact lookupIdx_some T r f lo ((lo + hi) / 2) i (by omega) h
        · rw [if_neg hl] at h
          exact lookupIdx_some T r f ((lo + hi) / 2 + 1) hi i hh h
    · rw [if_neg hlt] at h
      cases h

theorem caseA_size : caseA.size = 336 := by decide +kernel
theorem orbT_length : orbT.length = 94 := by decide +kernel

/-- A row that the search finds: both conversions are runes; the rune itself is good. -/
theorem row_found (r i : Nat) (h : lookupIdx caseA (r : Int) (caseA.size + 1) 0 caseA.size = some i) :
    i < caseA.size ∧ ((caseA.getD i (0, 0, 0, 0, 0)).1 : Int) ≤ (r : Int) ∧ (r : Int) ≤ ((caseA.getD i (0, 0, 0, 0, 0)).2.1 : Int) ∧ good r = true ∧
      (0 ≤ convertR 1 (r : Int) (caseA.getD i (0, 0, 0, 0, 0)) ∧ convertR 1 (r : Int) (caseA.getD i (0, 0, 0, 0, 0)) ≤ 1114111) ∧
      (0 ≤ convertR 0 (r : Int) (caseA.getD i (0, 0, 0, 0, 0)) ∧ convertR 0 (r : Int) (caseA.getD i (0, 0, 0, 0, 0)) ≤ 1114111) := by
  obtain ⟨hi, h1, h2⟩ := lookupIdx_some caseA r _ 0 caseA.size i (Nat.le_refl _) h
  have hm : caseA.getD i (0, 0, 0, 0, 0) ∈ caseT := by
    have e : caseA.getD i (0, 0, 0, 0, 0) = caseA[i] := by rw [Array.getD_eq_getD_getElem?, Array.getElem?_eq_getElem hi]; rfl
    rw [e]
    exact (List.mem_toArray (l := caseT)).1 (Array.getElem_mem hi)
  have hg := List.all_eq_true.1 good_rows _ hm
  refine ⟨hi, h1, h2, ?_⟩
  generalize caseA.getD i (0, 0, 0, 0, 0) = x at h1 h2 hg
  unfold rowGood at hg
  have hd := List.all_eq_true.1 hg (r - x.1) (List.mem_range.2 (by omega))
  have e : x.1 + (r - x.1) = r := by omega
  rw [e] at hd
  simp only [Bool.and_eq_true, inR, decide_eq_true_eq] at hd
  obtain ⟨⟨a, b⟩, c⟩ := hd
  exact ⟨a, b, c⟩

theorem good_all (r : Nat) : r ≤ 1114111 → good r = true := by
  intro hr
  by_cases h128 : r < 128
  · exact List.all_eq_true.1 good_ascii r (List.mem_range.2 h128)
  · by_cases ho : orbIdx r 95 0 94 < 94 ∧ (orbT.getD (orbIdx r 95 0 94) (0, 0)).1 = r
    · have hl : orbIdx r 95 0 94 < orbT.length := by rw [orbT_length]; exact ho.1
      have hm : orbT.getD (orbIdx r 95 0 94) (0, 0) ∈ orbT := by
        have e : orbT.getD (orbIdx r 95 0 94) (0, 0) = orbT[orbIdx r 95 0 94] := by rw [List.getD_eq_getElem?_getD, List.getElem?_eq_getElem hl]; rfl
        rw [e]
        exact List.getElem_mem hl
      have := List.all_eq_true.1 good_orbit _ hm
      rw [ho.2] at this
      exact this
    · cases hL : lookupIdx caseA (r : Int) (caseA.size + 1) 0 caseA.size with
      | some i => exact (row_found r i hL).2.2.2.1
      | none =>
        have e : sf r = r := by
          unfold sf
          rw [if_neg h128, if_neg ho]
          unfold sfCase
          rw [hL]
          simp
        unfold good back
        simp only [e, beq_self_eq_true, Bool.true_or, Bool.true_and, decide_eq_true_eq]
        exact hr

theorem sf_le (r : Nat) (h : r ≤ 1114111) : sf r ≤ 1114111 := by
  have := good_all r h
  unfold good at this
  simp only [Bool.and_eq_true, decide_eq_true_eq] at this
  exact this.2

/-- k steps of SimpleFold. -/
def it : Nat → Nat → Nat
  | 0, r => r
  | k + 1, r => sf (it k r)
theorem it_le (r : Nat) (h : r ≤ 1114111) : ∀ k, it k r ≤ 1114111
  | 0 => h
  | k + 1 => sf_le _ (it_le r h k)
/-- The walk round the orbit comes back. -/
theorem it_back (r : Nat) (h : r ≤ 1114111) : ∃ k, it (k + 1) r = r := by
  have := good_all r h
  unfold good back at this
  simp only [Bool.and_eq_true, Bool.or_eq_true, beq_iff_eq, decide_eq_true_eq] at this
  rcases this.1 with ((a | a) | a) | a
  · exact ⟨0, a⟩
  · exact ⟨1, a⟩
  · exact ⟨2, a⟩
  · exact ⟨3, a⟩
end Go.Proofs.Qxb6604493aFmt
