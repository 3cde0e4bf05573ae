/-
  The law FnParseFieldLineRoundTripsACheckedField: it returns true.
-/
import Derived.Test.Qxb6604744aFmtParse
namespace Go.Proofs.Qxb6604744aFmt
open Go.RowKit Go.Lib Go.Extern.Stop Go.Stop Go.Extern

def TruePost (w : World) (e : Ending) (w' : World) : Prop := e = .returned (.bool true) ∧ Below w.heap.size w w'
/-- Yes or no. -/
def Some2 (w : World) (e : Ending) (w' : World) : Prop := (∃ r : Bool, e = .returned (.bool r)) ∧ w' = w

set_option maxHeartbeats 1000000 in
theorem zzBytes11_any (n v : ByteArray) (w : World) (hn : n.size ≤ 9223372036854775807) (hv : v.size ≤ 9223372036854775807) : Calls Tryf.prog 11 #[.string n, .string v] w fun e w' => Some2 w e w' := by
  go_enter Tryf.func11, Tryf.ntmps11
  by_cases h1 : (1048576 : Int) < (n.size : Int)
  · go_wp2
    go_ret
    exact ⟨⟨_, rfl⟩, rfl⟩
  · by_cases h2 : (1048576 : Int) < (v.size : Int)
    · go_wp2
      go_ret
      exact ⟨⟨_, rfl⟩, rfl⟩
    · by_cases h3 : (1048576 : Int) < (n.size : Int) + (v.size : Int)
      · go_wp2
        go_ret
        exact ⟨⟨_, rfl⟩, rfl⟩
      · go_wp2
        go_ret
        exact ⟨⟨_, rfl⟩, rfl⟩

/-- The line that the law writes. -/
def lineOf (n v : ByteArray) : ByteArray := ((n ++ (⟨#[58, 32]⟩ : ByteArray)) ++ v) ++ (⟨#[32, 9]⟩ : ByteArray)
theorem lineOf_list (n v : ByteArray) : (lineOf n v).data.toList = n.data.toList ++ 58 :: (32 :: (v.data.toList ++ [32, 9])) := by
  simp [lineOf]
theorem lineOf_size (n v : ByteArray) : (lineOf n v).size = n.size + v.size + 4 := by
  rw [size_eq, lineOf_list, size_eq, size_eq]
  simp
  omega

theorem line_good {n v : ByteArray} (h : Chk n.data.toList v.data.toList) : indexByte (lineOf n v).data.toList 58 = (n.data.toList.length : Int) ∧
    (lineOf n v).data.toList.take n.data.toList.length = n.data.toList ∧ trimS ((lineOf n v).data.toList.drop (n.data.toList.length + 1)) cuts = v.data.toList := by
  rw [lineOf_list]
  refine ⟨index_line _ _ h.1.2, by simp, ?_⟩
  rw [← List.drop_drop, List.drop_left]
  exact trim_pad _ h.2.1

theorem parse_good {n v : ByteArray} {w : World} {e : Ending} {w' : World} (h : Chk n.data.toList v.data.toList) (hp : ParsePost (lineOf n v).data.toList w e w') :
    e = .returned (.tuple #[.agg #[.string n, .string v], .nilIface]) ∧ Below w.heap.size w w' := by
  obtain ⟨h1, h2, h3⟩ := line_good h
  obtain ⟨hp, hb⟩ := hp
  refine ⟨?_, hb⟩
  rcases hp with ⟨k, hk, hc, rfl⟩ | ⟨hno, _⟩
  · have : k = n.data.toList.length := by have := hk.symm.trans h1; omega
    subst this
    rw [h2, h3, str_self, str_self]
  · have := hno _ h1
    rw [h2, h3] at this
    exact absurd h this

/-- Where the field does not pass, no field comes back that is this one. -/
def NotThis (n v : ByteArray) (w : World) (e : Ending) (w' : World) : Prop :=
  ((∃ a b : ByteArray, e = .returned (.tuple #[.agg #[.string a, .string b], .nilIface]) ∧ ¬ (a = n ∧ b = v)) ∨ ∃ p : Addr, e = .returned (.tuple #[.agg #[.string ⟨#[]⟩, .string ⟨#[]⟩], .iface 47 (.pointer (some p))])) ∧ Below w.heap.size w w'
theorem parse_bad {n v : ByteArray} {l : List UInt8} {w : World} {e : Ending} {w' : World} (h : ¬ Chk n.data.toList v.data.toList) (hp : ParsePost l w e w') : NotThis n v w e w' := by
  obtain ⟨hp, hb⟩ := hp
  refine ⟨?_, hb⟩
  rcases hp with ⟨k, hk, hc, rfl⟩ | ⟨_, p, rfl⟩
  · refine Or.inl ⟨_, _, rfl, ?_⟩
    rintro ⟨rfl, rfl⟩
    exact h hc
  · exact Or.inr ⟨p, rfl⟩

set_option maxRecDepth 100000 in
set_option maxHeartbeats 4000000 in
theorem round_any (F : Interp) (n v : ByteArray) (w : World) (hF : F.answers w.tape) (hn : n.size ≤ 9223372036854775807) (hv : v.size ≤ 9223372036854775807) :
    Calls Tryf.prog 4 #[.string n, .string v] w fun e w' => TruePost w e w' := by
  have HF := hide hF
  clear hF
  go_enter Tryf.func4, Tryf.ntmps4
  go_wp2_with fail
  refine (zzBytes11_any n v w hn hv).mono ?_
  rintro e w1 ⟨⟨r, rfl⟩, rfl⟩
  cases r with
  | false =>
    go_wp2
    go_ret
    exact ⟨rfl, Below.refl _ _⟩
  | true =>
    by_cases h1 : (262144 : Int) < (n.size : Int)
    · go_wp2
      go_ret
      exact ⟨rfl, Below.refl _ _⟩
    · by_cases h2 : (262144 : Int) < (v.size : Int)
      · go_wp2
        go_ret
        exact ⟨rfl, Below.refl _ _⟩
      · by_cases h3 : (262144 : Int) < (n.size : Int) + (v.size : Int)
        · go_wp2
          go_ret
          exact ⟨rfl, Below.refl _ _⟩
        · go_wp2_with fail
          refine (check_any F n v w1 (unhide HF) hn hv).mono ?_
          rintro e w2 ⟨(⟨hc, rfl⟩ | ⟨hc, a, rfl⟩), hb⟩
          · have HB := hide hb
            have HC := hide hc
            have HF2 : Hid (F.answers w2.tape) := by show F.answers w2.tape; rw [hb.tape]; exact unhide HF
            clear hb hc
            go_wp2_with fail
            refine (zzparse_any F (lineOf n v) w2 (unhide HF2) (by rw [lineOf_size]; omega)).mono ?_
            intro e w3 hp
            obtain ⟨rfl, hb3⟩ := parse_good (unhide HC) hp
            have HB3 := hide ((unhide HB).trans (hb3.mono (unhide HB).size))
            clear hp hb3 HC HF2 HB
            go_wp2
            go_ret
            exact ⟨rfl, (unhide HB3).alloc (unhide HB3).size _⟩
          · have HB := hide hb
            have HC := hide hc
            have HF2 : Hid (F.answers w2.tape) := by show F.answers w2.tape; rw [hb.tape]; exact unhide HF
            clear hb hc
            go_wp2_with fail
            refine (zzparse_any F (lineOf n v) w2 (unhide HF2) (by rw [lineOf_size]; omega)).mono ?_
            intro e w3 hp
            obtain ⟨hp, hb3⟩ := parse_bad (unhide HC) hp
            have HB3 := hide ((unhide HB).trans (hb3.mono (unhide HB).size))
            clear hb3 HC HF2 HB
            rcases hp with ⟨na, va, rfl, hne⟩ | ⟨p, rfl⟩
            · by_cases hnn : na = n
              · have hvv : ¬ va = v := fun h => hne ⟨hnn, h⟩
                have e1 : (na.toList == n.toList) = true := by rw [hnn]; simp
                have e2 : (va.toList == v.toList) = false := by
                  rw [beq_eq_false_iff_ne, ByteArray.toList_eq, ByteArray.toList_eq]
                  intro h
                  exact hvv (by rw [← str_self va, h, str_self])
                clear hne hnn hvv
                go_wp2
                go_ret
                exact ⟨rfl, (unhide HB3).alloc (unhide HB3).size _⟩
              · have e1 : (na.toList == n.toList) = false := by
                  rw [beq_eq_false_iff_ne, ByteArray.toList_eq, ByteArray.toList_eq]
                  intro h
                  exact hnn (by rw [← str_self na, h, str_self])
                clear hne hnn
                go_wp2
                go_ret
                exact ⟨rfl, (unhide HB3).alloc (unhide HB3).size _⟩
            · go_wp2
              go_ret
              exact ⟨rfl, (unhide HB3).alloc (unhide HB3).size _⟩
end Go.Proofs.Qxb6604744aFmt
