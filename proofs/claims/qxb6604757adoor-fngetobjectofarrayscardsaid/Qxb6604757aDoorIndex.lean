/-
  A token read as an index: jsonpatch.index and the law's own zzIndex.
-/
import Derived.Test.Qxb6604757aDoorClone
import Derived.Test.Qxb6604757aDoorShelf
import Derived.BigQuiet
import Derived.Deep.QuietTactic
import Derived.Deep.RegionWith
import Derived.Stop.IfaceNil
import Derived.Lib.AtoiErrMem
namespace Go.Proofs.Qxb6604757aDoor
open Go.Shelf Go.RowKit Go.Lib

def dig (b : UInt8) : Prop := 48 ≤ b.toNat ∧ b.toNat ≤ 57
/-- What decimal digits spell, behind 'acc'. -/
def val (acc : Nat) : List UInt8 → Nat
  | [] => acc
  | c :: r => val (acc * 10 + (c.toNat - 48)) r
theorem val_ge : ∀ (l : List UInt8) (acc : Nat), acc ≤ val acc l
  | [], _ => Nat.le_refl _
  | c :: r, acc => Nat.le_trans (by omega) (val_ge r (acc * 10 + (c.toNat - 48)))
theorem val_snoc : ∀ (l : List UInt8) (acc : Nat) (c : UInt8), val acc (l ++ [c]) = val acc l * 10 + (c.toNat - 48)
  | [], _, _ => rfl
  | x :: r, acc, c => val_snoc r (acc * 10 + (x.toNat - 48)) c
theorem parse_digits (l : List UInt8) : ∀ acc : Nat, (∀ b ∈ l, dig b) → acc < 18446744073709551616 →
    (parseUint10 acc l = .ok (val acc l) ∧ val acc l < 18446744073709551616) ∨ (parseUint10 acc l = .range ∧ 18446744073709551616 ≤ val acc l) := by
  induction l with
  | nil =>
    intro acc _ ha
    have e1 : parseUint10 acc [] = .ok acc := rfl
    have e2 : val acc [] = acc := rfl
    rw [e1, e2]
    exact Or.inl ⟨rfl, ha⟩
  | cons c r ih =>
    intro acc hd ha
    have hc : 48 ≤ c.toNat ∧ c.toNat ≤ 57 := hd c (List.mem_cons_self ..)
    have hr : ∀ b ∈ r, dig b := fun b hb => hd b (List.mem_cons_of_mem _ hb)
    have hge := val_ge r (acc * 10 + (c.toNat - 48))
    have e2 : val acc (c :: r) = val (acc * 10 + (c.toNat - 48)) r := rfl
    rw [e2]
    unfold parseUint10
    rw [if_pos hc]
    by_cases h1 : 1844674407370955162 ≤ acc
    · rw [if_pos h1]
      exact Or.inr ⟨rfl, by omega⟩
    · rw [if_neg h1]
      by_cases h2 : 18446744073709551616 ≤ acc * 10 + (c.toNat - 48)
      · rw [if_pos h2]
        exact Or.inr ⟨rfl, by omega⟩
      · rw [if_neg h2]
        exact ih _ hr (by omega)

/-- An index as RFC 6901 has it: digits, no leading zero unless it is 0 itself. -/
def Canon (l : List UInt8) : Prop := l ≠ [] ∧ ¬ (l[0]? = some 48 ∧ 1 < l.length) ∧ ∀ b ∈ l, dig b
theorem atoi_canon {l : List UInt8} (hne : l ≠ []) (hd : ∀ b ∈ l, dig b) : (val 0 l < 9223372036854775808 ∧ atoiAll l = .ok (val 0 l)) ∨ (9223372036854775808 ≤ val 0 l ∧ atoiAll l = .range) := by
  cases l with
  | nil => exact absurd rfl hne
  | cons c r =>
    have hc : 48 ≤ c.toNat ∧ c.toNat ≤ 57 := hd c (List.mem_cons_self ..)
    have e1 : ¬ (c.toNat = 43 ∨ c.toNat = 45) := by omega
    have e2 : ¬ c.toNat = 45 := by omega
    unfold atoiAll
    simp only [if_neg e1, parseMag, if_neg (List.cons_ne_nil c r)]
    rcases parse_digits (c :: r) 0 hd (by omega) with ⟨h1, h2⟩ | ⟨h1, h2⟩
    · rw [h1]
      simp only [e2, not_false_eq_true, true_and, false_and, if_false]
      by_cases h3 : 9223372036854775808 ≤ val 0 (c :: r)
      · rw [if_pos h3]
        exact Or.inr ⟨h3, rfl⟩
      · rw [if_neg h3]
        exact Or.inl ⟨by omega, rfl⟩
    · rw [h1]
      exact Or.inr ⟨by omega, rfl⟩

def digs : List UInt8 := [48, 49, 50, 51, 52, 53, 54, 55, 56, 57]
theorem digs_iff (b : UInt8) : digs.contains b = true ↔ dig b := by
  unfold digs dig
  simp only [List.contains_cons, List.contains_nil, Bool.or_false, Bool.or_eq_true, beq_iff_eq]
  constructor
  · rintro (h | h | h | h | h | h | h | h | h | h) <;> rw [h] <;> decide
  · rintro ⟨h1, h2⟩
    have : b.toNat = 48 ∨ b.toNat = 49 ∨ b.toNat = 50 ∨ b.toNat = 51 ∨ b.toNat = 52 ∨ b.toNat = 53 ∨ b.toNat = 54 ∨ b.toNat = 55 ∨ b.toNat = 56 ∨ b.toNat = 57 := by omega
    rcases this with h | h | h | h | h | h | h | h | h | h
    · exact Or.inl (UInt8.toNat_inj.1 h)
    · exact Or.inr (Or.inl (UInt8.toNat_inj.1 h))
    · exact Or.inr (Or.inr (Or.inl (UInt8.toNat_inj.1 h)))
    · exact Or.inr (Or.inr (Or.inr (Or.inl (UInt8.toNat_inj.1 h))))
    · exact Or.inr (Or.inr (Or.inr (Or.inr (Or.inl (UInt8.toNat_inj.1 h)))))
    · exact Or.inr (Or.inr (Or.inr (Or.inr (Or.inr (Or.inl (UInt8.toNat_inj.1 h))))))
    · exact Or.inr (Or.inr (Or.inr (Or.inr (Or.inr (Or.inr (Or.inl (UInt8.toNat_inj.1 h)))))))
    · exact Or.inr (Or.inr (Or.inr (Or.inr (Or.inr (Or.inr (Or.inr (Or.inl (UInt8.toNat_inj.1 h))))))))
    · exact Or.inr (Or.inr (Or.inr (Or.inr (Or.inr (Or.inr (Or.inr (Or.inr (Or.inl (UInt8.toNat_inj.1 h)))))))))
    · exact Or.inr (Or.inr (Or.inr (Or.inr (Or.inr (Or.inr (Or.inr (Or.inr (Or.inr (UInt8.toNat_inj.1 h)))))))))
theorem dw_nil (p : UInt8 → Bool) : ∀ (l : List UInt8), l.dropWhile p = [] ↔ ∀ x ∈ l, p x = true
  | [] => by simp
  | c :: r => by
    cases hc : p c with
    | true =>
      rw [List.dropWhile_cons_of_pos hc, dw_nil p r]
      constructor
      · intro h x hx
        cases hx with
        | head => exact hc
        | tail _ hx => exact h x hx
      · exact fun h x hx => h x (List.mem_cons_of_mem _ hx)
    | false =>
      rw [List.dropWhile_cons_of_neg (by rw [hc]; simp)]
      constructor
      · intro h; cases h
      · intro h
        have := h c (List.mem_cons_self ..)
        rw [hc] at this
        cases this
theorem dw_head (p : UInt8 → Bool) : ∀ (l : List UInt8) (x : UInt8) (t : List UInt8), l.dropWhile p = x :: t → p x = false
  | [], _, _, h => by cases h
  | c :: r, x, t, h => by
    cases hc : p c with
    | true =>
      rw [List.dropWhile_cons_of_pos hc] at h
      exact dw_head p r x t h
    | false =>
      rw [List.dropWhile_cons_of_neg (by rw [hc]; simp)] at h
      injection h with h1
      rw [← h1]
      exact hc
theorem trim_digs (l : List UInt8) : trimS l digs = [] ↔ ∀ b ∈ l, dig b := by
  constructor
  · intro h b hb
    have h1 : ∀ x ∈ trimRightS l digs, digs.contains x = true := by
      intro x hx
      have h2 : (trimRightS l digs).dropWhile (digs.contains ·) = [] := h
      have h3 := (dw_nil _ _).1 h2 x hx
      exact h3
    by_cases hr : trimRightS l digs = []
    · have h2 : l.reverse.dropWhile (digs.contains ·) = [] := by
        have : (l.reverse.dropWhile (digs.contains ·)).reverse = [] := hr
        simpa using this
      exact (digs_iff b).1 ((dw_nil _ _).1 h2 b (by simpa using hb))
    · -- the last byte of what is left is none of the set
      exfalso
      have h2 : l.reverse.dropWhile (digs.contains ·) ≠ [] := fun e => hr (by unfold trimRightS; rw [e]; rfl)
      obtain ⟨x, t, e⟩ := List.exists_cons_of_ne_nil h2
      have hx : digs.contains x = false := dw_head _ _ _ _ e
      have := h1 x (by unfold trimRightS; rw [e]; simp)
      rw [hx] at this
      cases this
  · intro h
    have h2 : l.reverse.dropWhile (digs.contains ·) = [] := (dw_nil _ _).2 (fun x hx => (digs_iff x).2 (h x (by simpa using hx)))
    unfold trimS trimRightS
    rw [h2]
    rfl

theorem size_eq (s : ByteArray) : s.size = s.data.toList.length := rfl
theorem list_get (s : ByteArray) (k : Nat) (h : k < s.size) : s.data.toList[k]? = some s[k] := by
  have h' : k < s.data.toList.length := h
  rw [List.getElem?_eq_getElem h']
  rfl
theorem trim15 (s : ByteArray) (w : World) (hs : s.size ≤ 1048576) :
    Calls Tryd.prog 15 #[.string s, .string ⟨#[48, 49, 50, 51, 52, 53, 54, 55, 56, 57]⟩] w fun e w' => e = .returned (.string ⟨(trimS s.data.toList digs).toArray⟩) ∧ Below w.heap.size w w' :=
  Any.strings_Trim_laid Tryd.lays160 (by kernel_rfl) s ⟨#[48, 49, 50, 51, 52, 53, 54, 55, 56, 57]⟩ w (by omega) (by decide) (ascii_of_all (by decide))

/-- The variable strconv.ErrRange holds an error. -/
def ErrVar (w : World) : Prop := ∃ te pe, w.cell? ⟨1, 0, none⟩ = some (.iface te pe)
theorem ErrVar.below {w w' : World} (h : ErrVar w) (hb : Below w.heap.size w w') : ErrVar w' := by
  obtain ⟨te, pe, hc⟩ := h
  exact ⟨te, pe, (hb.cell (World.block_lt_of_cell? _ _ hc)).trans hc⟩

def AtoiPost (l : List UInt8) (w : World) (e : Ending) (w' : World) : Prop :=
  ((val 0 l < 9223372036854775808 ∧ e = .returned (.tuple #[.int .i64 (val 0 l : Nat), .nilIface])) ∨ (9223372036854775808 ≤ val 0 l ∧ ∃ (i : Int) (t : TypeId) (p : Addr), e = .returned (.tuple #[.int .i64 i, .iface t (.pointer (some p))]))) ∧ Below w.heap.size w w'

theorem atoi16 (s : ByteArray) (w : World) (hs : s.size ≤ 1048576) (hne : s.data.toList ≠ []) (hd : ∀ b ∈ s.data.toList, dig b) (hE : ErrVar w) :
    Calls Tryd.prog 16 #[.string s] w fun e w' => AtoiPost s.data.toList w e w' := by
  rcases atoi_canon hne hd with ⟨h1, h2⟩ | ⟨h1, h2⟩
  · refine (Any.strconv_Atoi_ok Tryd.lays172 s (by omega) _ h2 w).mono fun e w' ⟨he, hw⟩ => ⟨Or.inl ⟨h1, he⟩, ?_⟩
    rcases hw with rfl | ⟨t, rfl⟩
    · exact Below.refl _ _
    · exact Lib.bytesWorld_below _ _ _
  · obtain ⟨te, pe, hc⟩ := hE
    refine (Any.strconv_Atoi_range Tryd.lays172 s (by omega) h2 _ w hc (Or.inr ⟨te, pe, rfl⟩)).mono fun e w' ⟨N, he, _, _, hb⟩ => ⟨Or.inr ⟨h1, _, _, _, he⟩, hb⟩

theorem canon_not1 {s : ByteArray} (h : s.size = 0) : ¬ Canon s.data.toList := fun hc => hc.1 (List.length_eq_zero_iff.1 (by rw [← size_eq]; exact h))
theorem canon_not2 {s : ByteArray} (h0 : 0 < s.size) (h : (s[0]).toNat = 48) (h1 : 1 < s.size) : ¬ Canon s.data.toList := fun hc => hc.2.1 ⟨by rw [list_get s 0 h0]; exact congrArg some (UInt8.toNat_inj.1 h), by rw [← size_eq]; exact h1⟩
theorem canon_yes {s : ByteArray} (h0 : 0 < s.size) (h : ¬ ((s[0]).toNat = 48 ∧ 1 < s.size)) (hd : ∀ b ∈ s.data.toList, dig b) : Canon s.data.toList := by
  refine ⟨fun e => ?_, ?_, hd⟩
  · have : s.size = 0 := by rw [size_eq, e]; rfl
    omega
  · rintro ⟨h1, h2⟩
    rw [list_get s 0 h0] at h1
    exact h ⟨by rw [Option.some.inj h1]; rfl, h2⟩

/-- An index and whether it is one: exact where it is below 2^63. -/
def IdxPost (l : List UInt8) (w : World) (e : Ending) (w' : World) : Prop :=
  (∃ (i : Int) (ok : Bool), e = .returned (.tuple #[.int .i64 i, .bool ok]) ∧ (ok = true → Canon l ∧ i = (val 0 l : Nat)) ∧ (ok = false → ¬ (Canon l ∧ val 0 l < 9223372036854775808))) ∧ Below w.heap.size w w'
theorem IdxPost.no {l : List UInt8} {w w' : World} (i : Int) (h : ¬ (Canon l ∧ val 0 l < 9223372036854775808)) (hb : Below w.heap.size w w') : IdxPost l w (.returned (.tuple #[.int .i64 i, .bool false])) w' :=
  ⟨⟨i, false, rfl, (fun h => by cases h), fun _ => h⟩, hb⟩
theorem below_drewN {B : Nat} {w w' : World} (h : Below B w w') (z : Nat) : Below B w (w'.drewN z) := ⟨h.os, h.tape, h.output, h.size, h.block⟩

set_option maxRecDepth 100000 in
set_option maxHeartbeats 2000000 in
theorem index_any (s : ByteArray) (w : World) (hs : s.size ≤ 1048576) (hE : ErrVar w) : Calls Tryd.prog 14 #[.string s] w fun e w' => IdxPost s.data.toList w e w' := by
  have HE := hide hE
  clear hE
  by_cases h0 : s.size = 0
  · have HN := hide (canon_not1 h0)
    have e0 : s = ⟨#[]⟩ := by
      cases s with | mk d =>
      have : d.size = 0 := h0
      rw [Array.eq_empty_of_size_eq_zero this]
    subst e0
    go_enter Tryd.func14, Tryd.ntmps14
    go_wp2
    go_ret2
    exact IdxPost.no _ (fun h => unhide HN h.1) (Below.refl _ _)
  · have hpos : 0 < s.size := by omega
    have hpos' : (0 : Int) < (s.size : Int) := by omega
    have e0 : s.toList.isEmpty = false := by
      rw [ByteArray.toList_eq, Bool.eq_false_iff]
      intro h
      have := congrArg List.length (List.isEmpty_iff.1 h)
      exact h0 (by simpa using this)
    by_cases hz : (s[0]).toNat = 48 ∧ 1 < s.size
    · obtain ⟨hz1, hz2⟩ := hz
      have HN := hide (canon_not2 hpos hz1 hz2)
      have e1 : (((s[0]).toNat : Int) == 48) = true := by rw [hz1]; rfl
      have hz2' : (1 : Int) < (s.size : Int) := by omega
      clear h0
      go_enter Tryd.func14, Tryd.ntmps14
      go_wp2
      go_ret2
      exact IdxPost.no _ (fun h => unhide HN h.1) (Below.refl _ _)
    · have HZ := hide hz
      have hb48 : ∃ b : Bool, (((s[0]).toNat : Int) == 48) = b ∧ (b = true → ¬ (1 : Int) < (s.size : Int)) := by
        refine ⟨_, rfl, fun h hlt => hz ⟨?_, by omega⟩⟩
        have := beq_iff_eq.1 h
        omega
      obtain ⟨b, hb1, hb2⟩ := hb48
      clear hz h0
      cases b with
      | true =>
        have hz2' : ¬ (1 : Int) < (s.size : Int) := hb2 rfl
        clear hb2
        go_enter Tryd.func14, Tryd.ntmps14
        go_wp2_with fail
        refine (trim15 s w hs).mono ?_
        rintro e w1 ⟨rfl, hb⟩
        have HB := hide hb
        have HE1 := hide ((unhide HE).below hb)
        clear hb
        by_cases hd : ∀ b ∈ s.data.toList, dig b
        · have ht : trimS s.data.toList digs = [] := (trim_digs _).2 hd
          have HD := hide hd
          have HC := hide (canon_yes hpos (unhide HZ) hd)
          rw [ht]
          clear ht hd
          go_wp2_with fail
          refine (atoi16 s w1 hs (unhide HC).1 (unhide HD) (unhide HE1)).mono ?_
          rintro e w2 ⟨(⟨hv, rfl⟩ | ⟨hv, i, t, p, rfl⟩), hb2⟩
          · have HV := hide hv
            have HB2 := hide ((unhide HB).trans (hb2.mono (unhide HB).size))
            clear hv hb2
            go_wp2_with fail
            go_quiet (fail)
            go_wp2
            go_ret2
            exact ⟨⟨_, true, rfl, fun _ => ⟨unhide HC, rfl⟩, (fun h => by cases h)⟩, below_drewN (unhide HB2) _⟩
          · have HV := hide hv
            have HB2 := hide ((unhide HB).trans (hb2.mono (unhide HB).size))
            clear hv hb2
            go_wp2_with fail
            go_quiet (fail)
            go_wp2
            go_ret2
            exact IdxPost.no _ (fun h => by have := unhide HV; omega) (below_drewN (unhide HB2) _)
        · have HN : Hid (¬ Canon s.data.toList) := fun h => hd h.2.2
          have ht : (⟨(trimS s.data.toList digs).toArray⟩ : ByteArray).toList.isEmpty = false := by
            rw [ByteArray.toList_eq, Bool.eq_false_iff]
            intro h
            exact hd ((trim_digs _).1 (List.isEmpty_iff.1 h))
          generalize (⟨(trimS s.data.toList digs).toArray⟩ : ByteArray) = tv at ht ⊢
          clear hd
          go_wp2
          go_ret2
          exact IdxPost.no _ (fun h => unhide HN h.1) (unhide HB)
      | false =>
        clear hb2
        go_enter Tryd.func14, Tryd.ntmps14
        go_wp2_with fail
        refine (trim15 s w hs).mono ?_
        rintro e w1 ⟨rfl, hb⟩
        have HB := hide hb
        have HE1 := hide ((unhide HE).below hb)
        clear hb
        by_cases hd : ∀ b ∈ s.data.toList, dig b
        · have ht : trimS s.data.toList digs = [] := (trim_digs _).2 hd
          have HD := hide hd
          have HC := hide (canon_yes hpos (unhide HZ) hd)
          rw [ht]
          clear ht hd
          go_wp2_with fail
          refine (atoi16 s w1 hs (unhide HC).1 (unhide HD) (unhide HE1)).mono ?_
          rintro e w2 ⟨(⟨hv, rfl⟩ | ⟨hv, i, t, p, rfl⟩), hb2⟩
          · have HV := hide hv
            have HB2 := hide ((unhide HB).trans (hb2.mono (unhide HB).size))
            clear hv hb2
            go_wp2_with fail
            go_quiet (fail)
            go_wp2
            go_ret2
            exact ⟨⟨_, true, rfl, fun _ => ⟨unhide HC, rfl⟩, (fun h => by cases h)⟩, below_drewN (unhide HB2) _⟩
          · have HV := hide hv
            have HB2 := hide ((unhide HB).trans (hb2.mono (unhide HB).size))
            clear hv hb2
            go_wp2_with fail
            go_quiet (fail)
            go_wp2
            go_ret2
            exact IdxPost.no _ (fun h => by have := unhide HV; omega) (below_drewN (unhide HB2) _)
        · have HN : Hid (¬ Canon s.data.toList) := fun h => hd h.2.2
          have ht : (⟨(trimS s.data.toList digs).toArray⟩ : ByteArray).toList.isEmpty = false := by
            rw [ByteArray.toList_eq, Bool.eq_false_iff]
            intro h
            exact hd ((trim_digs _).1 (List.isEmpty_iff.1 h))
          generalize (⟨(trimS s.data.toList digs).toArray⟩ : ByteArray) = tv at ht ⊢
          clear hd
          go_wp2
          go_ret2
          exact IdxPost.no _ (fun h => unhide HN h.1) (unhide HB)

def ZIdxPost (l : List UInt8) (n : Nat) (w : World) (e : Ending) (w' : World) : Prop :=
  (∃ (i : Int) (ok : Bool), e = .returned (.tuple #[.int .i64 i, .bool ok]) ∧ (ok = true → Canon l ∧ i = (val 0 l : Nat) ∧ val 0 l < n) ∧ (ok = false → ¬ (Canon l ∧ val 0 l < n))) ∧ w' = w
theorem ZIdxPost.no {l : List UInt8} {n : Nat} {w : World} (i : Int) (h : ¬ (Canon l ∧ val 0 l < n)) : ZIdxPost l n w (.returned (.tuple #[.int .i64 i, .bool false])) w :=
  ⟨⟨i, false, rfl, (fun h => by cases h), fun _ => h⟩, rfl⟩
theorem val_take (s : ByteArray) (k : Nat) (h : k < s.size) : val 0 (s.data.toList.take (k + 1)) = val 0 (s.data.toList.take k) * 10 + ((s[k]).toNat - 48) := by
  rw [List.take_add_one, list_get s k h]
  exact val_snoc _ _ _
theorem val_full (s : ByteArray) : val 0 (s.data.toList.take s.size) = val 0 s.data.toList := by
  rw [size_eq, List.take_length]
theorem dig_all (s : ByteArray) (h : ∀ j, ∀ hj : j < s.size, dig s[j]) : ∀ b ∈ s.data.toList, dig b := by
  intro b hb
  obtain ⟨i, hi, rfl⟩ := List.mem_iff_getElem.1 hb
  simp only [Array.getElem_toList]
  exact h i hi
theorem dig_not {s : ByteArray} {k : Nat} (hk : k < s.size) (h : ¬ dig s[k]) : ¬ Canon s.data.toList := fun hc => h (hc.2.2 _ (List.mem_of_getElem? (list_get s k hk)))

set_option maxRecDepth 100000 in
set_option maxHeartbeats 2000000 in
theorem zzIndex_any (s : ByteArray) (n : Nat) (w : World) (hs : s.size ≤ 1048576) (hn : n ≤ 1048576) : Calls Tryd.prog 13 #[.string s, .int .i64 (n : Int)] w fun e w' => ZIdxPost s.data.toList n w e w' := by
  by_cases h0 : s.size = 0
  · have HN := hide (canon_not1 h0)
    have e0 : s = ⟨#[]⟩ := by
      cases s with | mk d =>
      have : d.size = 0 := h0
      rw [Array.eq_empty_of_size_eq_zero this]
    subst e0
    go_enter Tryd.func13, Tryd.ntmps13
    go_wp2
    go_ret2
    exact ZIdxPost.no _ (fun h => unhide HN h.1)
  · have hpos : 0 < s.size := by omega
    have hpos' : (0 : Int) < (s.size : Int) := by omega
    have e0 : s.toList.isEmpty = false := by
      rw [ByteArray.toList_eq, Bool.eq_false_iff]
      intro h
      have := congrArg List.length (List.isEmpty_iff.1 h)
      exact h0 (by simpa using this)
    by_cases hz : (s[0]).toNat = 48 ∧ 1 < s.size
    · obtain ⟨hz1, hz2⟩ := hz
      have HN := hide (canon_not2 hpos hz1 hz2)
      have e1 : (((s[0]).toNat : Int) == 48) = true := by rw [hz1]; rfl
      have hz2' : (1 : Int) < (s.size : Int) := by omega
      clear h0
      go_enter Tryd.func13, Tryd.ntmps13
      go_wp2
      go_ret2
      exact ZIdxPost.no _ (fun h => unhide HN h.1)
    · have HZ := hide hz
      have hb48 : ∃ b : Bool, (((s[0]).toNat : Int) == 48) = b ∧ (b = true → ¬ (1 : Int) < (s.size : Int)) := by
        refine ⟨_, rfl, fun h hlt => hz ⟨?_, by omega⟩⟩
        have := beq_iff_eq.1 h
        omega
      obtain ⟨b, hb1, hb2⟩ := hb48
      clear hz h0
      cases b with
      | true =>
        have hz2' : ¬ (1 : Int) < (s.size : Int) := hb2 rfl
        clear hb2
        go_enter Tryd.func13, Tryd.ntmps13
        go_wp2_with fail
        go_loop [6, 7, 8] (fun v i _ => ∃ (k z : Nat), k ≤ s.size ∧ i = .int .i64 k ∧ v = .int .i64 z ∧ z ≤ 10485770 ∧ (∀ j, ∀ hj : j < s.size, j < k → dig s[j]) ∧ (z = val 0 (s.data.toList.take k) ∨ (n ≤ z ∧ n ≤ val 0 (s.data.toList.take k)))) (fun _ i _ => s.size - (RowKit.intOf i).toNat)
        case atStart => exact ⟨0, 0, Nat.zero_le _, rfl, rfl, by omega, (fun j _ hj => by omega), Or.inl rfl⟩
        case round =>
          obtain ⟨k, z, hk, rfl, rfl, hz9, hall, hval⟩ := hrel
          have HA := hide hall
          have HV := hide hval
          clear hall hval
          by_cases hlt : k < s.size
          · have hlt' : (k : Int) < (s.size : Int) := by omega
            by_cases hd : dig s[k]
            · have HD := hide hd
              obtain ⟨hd1, hd2⟩ := hd
              have d1 : ¬ ((s[k]).toNat : Int) < 48 := by omega
              have d2 : ¬ (57 : Int) < ((s[k]).toNat : Int) := by omega
              have HT := hide (val_take s k hlt)
              by_cases hzn : z < n
              · have hzn' : (z : Int) < (n : Int) := by omega
                go_wp2
                go_round
                case rel =>
                  refine ⟨k + 1, z * 10 + ((s[k]).toNat - 48), by omega, by go_num, ?_, by omega, fun j hj hjk => ?_, Or.inl ?_⟩
                  · congr 1
                    omega
                  · by_cases e : j = k
                    · subst e; exact unhide HD
                    · exact unhide HA j hj (by omega)
                  · rw [unhide HT]
                    rcases unhide HV with h | ⟨h, _⟩
                    · rw [h]
                    · omega
                case measure => simp [RowKit.intOf]; omega
              · have hzn' : ¬ (z : Int) < (n : Int) := by omega
                go_wp2
                go_round
                case rel =>
                  refine ⟨k + 1, z, by omega, by go_num, rfl, by omega, fun j hj hjk => ?_, Or.inr ⟨by omega, ?_⟩⟩
                  · by_cases e : j = k
                    · subst e; exact unhide HD
                    · exact unhide HA j hj (by omega)
                  · rw [unhide HT]
                    rcases unhide HV with h | ⟨_, h⟩ <;> omega
                case measure => simp [RowKit.intOf]; omega
            · have HN := hide (dig_not hlt hd)
              by_cases h1 : (s[k]).toNat < 48
              · have d1 : ((s[k]).toNat : Int) < 48 := by omega
                clear hd
                go_wp2
                go_ret2
                exact ZIdxPost.no _ (fun h => unhide HN h.1)
              · have d1 : ¬ ((s[k]).toNat : Int) < 48 := by omega
                have d2 : (57 : Int) < ((s[k]).toNat : Int) := by
                  have : ¬ (s[k]).toNat ≤ 57 := fun h => hd ⟨by omega, h⟩
                  omega
                clear hd
                go_wp2
                go_ret2
                exact ZIdxPost.no _ (fun h => unhide HN h.1)
          · have hlt' : ¬ (k : Int) < (s.size : Int) := by omega
            have HC : Hid (Canon s.data.toList) := canon_yes hpos (unhide HZ) (dig_all s (fun j hj => unhide HA j hj (by omega)))
            have HV2 : Hid (z = val 0 s.data.toList ∨ (n ≤ z ∧ n ≤ val 0 s.data.toList)) := by
              have e : k = s.size := by omega
              have := unhide HV
              rw [e, val_full] at this
              exact this
            clear HV HA
            by_cases hzn : n ≤ z
            · have hzn' : (n : Int) ≤ (z : Int) := by omega
              go_wp2
              go_ret2
              exact ZIdxPost.no _ (fun h => by rcases unhide HV2 with h1 | ⟨_, h1⟩ <;> have := h.2 <;> omega)
            · have hzn' : ¬ (n : Int) ≤ (z : Int) := by omega
              have HV3 : Hid (z = val 0 s.data.toList) := by
                rcases unhide HV2 with h | ⟨h, _⟩
                · exact h
                · omega
              clear HV2
              go_wp2
              go_ret2
              exact ⟨⟨_, true, rfl, fun _ => ⟨unhide HC, by rw [← unhide HV3], by rw [← unhide HV3]; omega⟩, (fun h => by cases h)⟩, rfl⟩
      | false =>
        clear hb2
        go_enter Tryd.func13, Tryd.ntmps13
        go_wp2_with fail
        go_loop [6, 7, 8] (fun v i _ => ∃ (k z : Nat), k ≤ s.size ∧ i = .int .i64 k ∧ v = .int .i64 z ∧ z ≤ 10485770 ∧ (∀ j, ∀ hj : j < s.size, j < k → dig s[j]) ∧ (z = val 0 (s.data.toList.take k) ∨ (n ≤ z ∧ n ≤ val 0 (s.data.toList.take k)))) (fun _ i _ => s.size - (RowKit.intOf i).toNat)
        case atStart => exact ⟨0, 0, Nat.zero_le _, rfl, rfl, by omega, (fun j _ hj => by omega), Or.inl rfl⟩
        case round =>
          obtain ⟨k, z, hk, rfl, rfl, hz9, hall, hval⟩ := hrel
          have HA := hide hall
          have HV := hide hval
          clear hall hval
          by_cases hlt : k < s.size
          · have hlt' : (k : Int) < (s.size : Int) := by omega
            by_cases hd : dig s[k]
            · have HD := hide hd
              obtain ⟨hd1, hd2⟩ := hd
              have d1 : ¬ ((s[k]).toNat : Int) < 48 := by omega
              have d2 : ¬ (57 : Int) < ((s[k]).toNat : Int) := by omega
              have HT := hide (val_take s k hlt)
              by_cases hzn : z < n
              · have hzn' : (z : Int) < (n : Int) := by omega
                go_wp2
                go_round
                case rel =>
                  refine ⟨k + 1, z * 10 + ((s[k]).toNat - 48), by omega, by go_num, ?_, by omega, fun j hj hjk => ?_, Or.inl ?_⟩
                  · congr 1
                    omega
                  · by_cases e : j = k
                    · subst e; exact unhide HD
                    · exact unhide HA j hj (by omega)
                  · rw [unhide HT]
                    rcases unhide HV with h | ⟨h, _⟩
                    · rw [h]
                    · omega
                case measure => simp [RowKit.intOf]; omega
              · have hzn' : ¬ (z : Int) < (n : Int) := by omega
                go_wp2
                go_round
                case rel =>
                  refine ⟨k + 1, z, by omega, by go_num, rfl, by omega, fun j hj hjk => ?_, Or.inr ⟨by omega, ?_⟩⟩
                  · by_cases e : j = k
                    · subst e; exact unhide HD
                    · exact unhide HA j hj (by omega)
                  · rw [unhide HT]
                    rcases unhide HV with h | ⟨_, h⟩ <;> omega
                case measure => simp [RowKit.intOf]; omega
            · have HN := hide (dig_not hlt hd)
              by_cases h1 : (s[k]).toNat < 48
              · have d1 : ((s[k]).toNat : Int) < 48 := by omega
                clear hd
                go_wp2
                go_ret2
                exact ZIdxPost.no _ (fun h => unhide HN h.1)
              · have d1 : ¬ ((s[k]).toNat : Int) < 48 := by omega
                have d2 : (57 : Int) < ((s[k]).toNat : Int) := by
                  have : ¬ (s[k]).toNat ≤ 57 := fun h => hd ⟨by omega, h⟩
                  omega
                clear hd
                go_wp2
                go_ret2
                exact ZIdxPost.no _ (fun h => unhide HN h.1)
          · have hlt' : ¬ (k : Int) < (s.size : Int) := by omega
            have HC : Hid (Canon s.data.toList) := canon_yes hpos (unhide HZ) (dig_all s (fun j hj => unhide HA j hj (by omega)))
            have HV2 : Hid (z = val 0 s.data.toList ∨ (n ≤ z ∧ n ≤ val 0 s.data.toList)) := by
              have e : k = s.size := by omega
              have := unhide HV
              rw [e, val_full] at this
              exact this
            clear HV HA
            by_cases hzn : n ≤ z
            · have hzn' : (n : Int) ≤ (z : Int) := by omega
              go_wp2
              go_ret2
              exact ZIdxPost.no _ (fun h => by rcases unhide HV2 with h1 | ⟨_, h1⟩ <;> have := h.2 <;> omega)
            · have hzn' : ¬ (n : Int) ≤ (z : Int) := by omega
              have HV3 : Hid (z = val 0 s.data.toList) := by
                rcases unhide HV2 with h | ⟨h, _⟩
                · exact h
                · omega
              clear HV2
              go_wp2
              go_ret2
              exact ⟨⟨_, true, rfl, fun _ => ⟨unhide HC, by rw [← unhide HV3], by rw [← unhide HV3]; omega⟩, (fun h => by cases h)⟩, rfl⟩
end Go.Proofs.Qxb6604757aDoor
