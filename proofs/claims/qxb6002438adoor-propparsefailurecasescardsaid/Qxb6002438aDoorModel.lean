/-
  zzParseModel: it computes the machine.
-/
import Derived.Test.Qxb6002438aDoorSteps
import Derived.OwnWalk
import Derived.Below
import Derived.BigQuiet
import Derived.Deep.QuietTactic
import Derived.Maps.AppendAt
namespace Go.Proofs.Qxb6002438aDoor
open Go.RowKit

theorem Tryd.info3 : (Tryd.prog.info? 3).map (fun i => (i.zero, i.size, i.bytes)) = some (some (.int .i64 0), 1, 8) := by kernel_rfl
/-- The stack as it lies in the row: the outermost first. -/
def flat (st : List Nat) : List Value := st.reverse.map fun (n : Nat) => Value.int .i64 (n : Int)
theorem flat_length (st : List Nat) : (flat st).length = st.length := by simp [flat]
theorem flat_cons (t : Nat) (st : List Nat) : flat (t :: st) = flat st ++ [.int .i64 (t : Int)] := by simp [flat]
theorem flat_top (t : Nat) (st : List Nat) : (flat (t :: st))[st.length]? = some (.int .i64 (t : Int)) := by
  rw [flat_cons, List.getElem?_append_right (by rw [flat_length]; exact Nat.le_refl _), flat_length]
  simp
theorem own_pop {w : World} {base g cap t : Nat} {st : List Nat} (h : w.ownsRow base 3 1 (.slice (some ⟨g, 0, none⟩) (st.length + 1) cap) (st.length + 1) (flat (t :: st))) :
    w.ownsRow base 3 1 (.slice (some ⟨g, 0, none⟩) st.length cap) st.length (flat st) := by
  obtain ⟨h1, h2⟩ := h
  rcases h2 with ⟨h0, _⟩ | ⟨g', cap', cur, hv, hg, hh, hn, hcap, hsz, htake⟩
  · cases h0
  · cases hv
    refine ⟨by rw [flat_length]; simp, .inr ⟨g, cap, cur, rfl, hg, hh, by omega, hcap, hsz, ?_⟩⟩
    have h3 : (cur.toList.take ((st.length + 1) * 1)).take (st.length * 1) = (flat (t :: st)).take (st.length * 1) := by rw [htake]
    rw [List.take_take, Nat.min_eq_left (by omega)] at h3
    rw [h3, flat_cons, Nat.mul_one, ← flat_length st, List.take_left]

theorem below_drewN {B : Nat} {w w' : World} (h : Below B w w') (z : Nat) : Below B w (w'.drewN z) := ⟨h.os, h.tape, h.output, h.size, h.block⟩
/-- bad and where. -/
def ModelPost (o : Option Nat) (w : World) (e : Ending) (w' : World) : Prop :=
  (match o with | none => e = .returned (.tuple #[.bool false, .int .i64 0]) | some l => e = .returned (.tuple #[.bool true, .int .i64 (l : Int)])) ∧ Below w.heap.size w w'

set_option maxRecDepth 100000 in
set_option maxHeartbeats 4000000 in
theorem model_any (s : ByteArray) (w : World) (hs : s.size ≤ 1048576) (bl : Nat) (hbl0 : bl ≤ 2097152) (hbl : Calls Tryd.prog 18 #[.string s] w fun e w' => e = .returned (.int .i64 (bl : Int)) ∧ w' = w) :
    Calls Tryd.prog 6 #[.string s] w fun e w' => ModelPost (if 0 < bl then some bl else R s 0 1 []) w e w' := by
  generalize hv : (if 0 < bl then some bl else R s 0 1 []) = v
  have Hv := hide hv
  have Hbl := hide hbl
  clear hv hbl
  obtain ⟨i0, hi, hz0, hz1, hz2⟩ := info_parts Tryd.info3
  go_enter Tryd.func6, Tryd.ntmps6
  go_wp2_with fail
  refine (unhide Hbl).mono ?_
  rintro e w1 ⟨rfl, rfl⟩
  clear Hbl
  by_cases hpos : 0 < bl
  · have hpos' : (0 : Int) < (bl : Int) := by omega
    have HE : Hid (v = some bl) := by show v = some bl; rw [← unhide Hv, if_pos hpos]
    go_wp2
    go_ret2
    refine ⟨?_, Below.refl _ _⟩
    rw [unhide HE]
    rfl
  · have hpos' : ¬ (0 : Int) < (bl : Int) := by omega
    have HE : Hid (v = R s 0 1 []) := by show v = _; rw [← unhide Hv, if_neg hpos]
    clear Hv
    go_wp2_with fail
    go_loopw [5, 6, 7, 8, 9, 10, 11, 12] (fun sv lv iv _ _ _ _ _ wr => ∃ (k line : Nat) (st : List Nat), k ≤ s.size ∧ line ≤ k + 1 ∧ st.length ≤ k ∧ iv = .int .i64 k ∧ lv = .int .i64 line ∧ wr.ownsRow w1.heap.size 3 1 sv st.length (flat st) ∧ Below w1.heap.size w1 wr ∧ v = R s k line st) (fun _ _ iv _ _ _ _ _ _ => s.size - (RowKit.intOf iv).toNat)
    case atStart => exact ⟨0, 1, [], Nat.zero_le _, by omega, by simp, rfl, rfl, World.ownsRow_nil _ _ _ _, Below.refl _ _, unhide HE⟩
    case round =>
      clear HE
      obtain ⟨k, line, st, hk, hline, hst, rfl, rfl, hown, hbel, hR⟩ := hrel
      have HO := hide hown
      have HB := hide hbel
      have HR := hide hR
      clear hown hbel hR
      by_cases hlt : k < s.size
      · have hlt' : (k : Int) < (s.size : Int) := by omega
        have hb := byt_eq s k hlt
        by_cases hc : (s[k]).toNat = 32
        · have e32 : (((s[k]).toNat : Int) == 32) = true := by rw [hc]; rfl
          have e9 : (((s[k]).toNat : Int) == 9) = false := by rw [hc]; rfl
          have e10 : (((s[k]).toNat : Int) == 10) = false := by rw [hc]; rfl
          have e35 : (((s[k]).toNat : Int) == 35) = false := by rw [hc]; rfl
          have e124 : (((s[k]).toNat : Int) == 124) = false := by rw [hc]; rfl
          have e125 : (((s[k]).toNat : Int) == 125) = false := by rw [hc]; rfl
          have e123 : (((s[k]).toNat : Int) == 123) = false := by rw [hc]; rfl
          have e39 : (((s[k]).toNat : Int) == 39) = false := by rw [hc]; rfl
          have HS : Hid (v = R s (k + 1) line st) := by show _ = _; rw [unhide HR, R_blank hlt (by rw [hb]; omega)]
          clear HR hc hb
          go_wp2
          go_roundw
          case rel => exact ⟨k + 1, line, st, by omega, by omega, by omega, by go_num, rfl, unhide HO, unhide HB, unhide HS⟩
          case measure => simp [RowKit.intOf]; omega
        have hn32 := hc
        clear hc
        by_cases hc : (s[k]).toNat = 9
        · have e32 : (((s[k]).toNat : Int) == 32) = false := by rw [hc]; rfl
          have e9 : (((s[k]).toNat : Int) == 9) = true := by rw [hc]; rfl
          have e10 : (((s[k]).toNat : Int) == 10) = false := by rw [hc]; rfl
          have e35 : (((s[k]).toNat : Int) == 35) = false := by rw [hc]; rfl
          have e124 : (((s[k]).toNat : Int) == 124) = false := by rw [hc]; rfl
          have e125 : (((s[k]).toNat : Int) == 125) = false := by rw [hc]; rfl
          have e123 : (((s[k]).toNat : Int) == 123) = false := by rw [hc]; rfl
          have e39 : (((s[k]).toNat : Int) == 39) = false := by rw [hc]; rfl
          have HS : Hid (v = R s (k + 1) line st) := by show _ = _; rw [unhide HR, R_blank hlt (by rw [hb]; omega)]
          clear HR hc hb
          go_wp2
          go_roundw
          case rel => exact ⟨k + 1, line, st, by omega, by omega, by omega, by go_num, rfl, unhide HO, unhide HB, unhide HS⟩
          case measure => simp [RowKit.intOf]; omega
        have hn9 := hc
        clear hc
        by_cases hc : (s[k]).toNat = 10
        · have e32 : (((s[k]).toNat : Int) == 32) = false := by rw [hc]; rfl
          have e9 : (((s[k]).toNat : Int) == 9) = false := by rw [hc]; rfl
          have e10 : (((s[k]).toNat : Int) == 10) = true := by rw [hc]; rfl
          have e35 : (((s[k]).toNat : Int) == 35) = false := by rw [hc]; rfl
          have e124 : (((s[k]).toNat : Int) == 124) = false := by rw [hc]; rfl
          have e125 : (((s[k]).toNat : Int) == 125) = false := by rw [hc]; rfl
          have e123 : (((s[k]).toNat : Int) == 123) = false := by rw [hc]; rfl
          have e39 : (((s[k]).toNat : Int) == 39) = false := by rw [hc]; rfl
          have HS : Hid (v = R s (k + 1) (line + 1) st) := by show _ = _; rw [unhide HR, R_nl hlt (by rw [hb]; exact hc)]
          clear HR hc hb
          go_wp2
          go_roundw
          case rel => exact ⟨k + 1, line + 1, st, by omega, by omega, by omega, by go_num, by go_num, unhide HO, unhide HB, unhide HS⟩
          case measure => simp [RowKit.intOf]; omega
        have hn10 := hc
        clear hc
        by_cases hc : (s[k]).toNat = 35
        · have e32 : (((s[k]).toNat : Int) == 32) = false := by rw [hc]; rfl
          have e9 : (((s[k]).toNat : Int) == 9) = false := by rw [hc]; rfl
          have e10 : (((s[k]).toNat : Int) == 10) = false := by rw [hc]; rfl
          have e35 : (((s[k]).toNat : Int) == 35) = true := by rw [hc]; rfl
          have e124 : (((s[k]).toNat : Int) == 124) = false := by rw [hc]; rfl
          have e125 : (((s[k]).toNat : Int) == 125) = false := by rw [hc]; rfl
          have e123 : (((s[k]).toNat : Int) == 123) = false := by rw [hc]; rfl
          have e39 : (((s[k]).toNat : Int) == 39) = false := by rw [hc]; rfl
          have HS : Hid (v = R s (skipC s (s.size - k) k) line st) := by show _ = _; rw [unhide HR, R_hash hlt (by rw [hb]; exact hc)]
          have hsk := skipC_lt hlt (by rw [hb]; exact hc)
          clear HR hc hb
          go_wp2_with fail
          refine (skipComment_any s k wr hs hk).mono ?_
          rintro e w2 ⟨rfl, rfl⟩
          generalize skipC s (s.size - k) k = k1 at hsk HS ⊢
          go_wp2
          go_roundw
          case rel => exact ⟨k1, line, st, by omega, by omega, by omega, rfl, rfl, unhide HO, unhide HB, unhide HS⟩
          case measure => simp [RowKit.intOf]; omega
        have hn35 := hc
        clear hc
        by_cases hc : (s[k]).toNat = 124
        · have e32 : (((s[k]).toNat : Int) == 32) = false := by rw [hc]; rfl
          have e9 : (((s[k]).toNat : Int) == 9) = false := by rw [hc]; rfl
          have e10 : (((s[k]).toNat : Int) == 10) = false := by rw [hc]; rfl
          have e35 : (((s[k]).toNat : Int) == 35) = false := by rw [hc]; rfl
          have e124 : (((s[k]).toNat : Int) == 124) = true := by rw [hc]; rfl
          have e125 : (((s[k]).toNat : Int) == 125) = false := by rw [hc]; rfl
          have e123 : (((s[k]).toNat : Int) == 123) = false := by rw [hc]; rfl
          have e39 : (((s[k]).toNat : Int) == 39) = false := by rw [hc]; rfl
          cases st with
          | nil =>
            have HS : Hid (v = some line) := by show _ = _; rw [unhide HR, R_pipe_nil hlt (by rw [hb]; exact hc)]
            clear HR hc hb
            rcases (unhide HO).2 with ⟨rfl, _⟩ | ⟨g, cap, cur, rfl, _⟩
            · go_wp2
              go_ret2
              refine ⟨?_, unhide HB⟩
              rw [unhide HS]
              rfl
            · simp only [List.length_nil]
              go_wp2
              go_ret2
              refine ⟨?_, unhide HB⟩
              rw [unhide HS]
              rfl
          | cons t rest =>
            rcases (unhide HO).2 with ⟨_, hn0⟩ | ⟨g, cap, cur, rfl, _, _, hncap, hcapm, _, _⟩
            · simp at hn0
            simp only [List.length_cons] at HO hncap hst ⊢
            have hg0 : (((rest.length : Int) + 1) == 0) = false := by simp; omega
            have hg1 : (((rest.length + 1 : Nat) : Int) == 0) = false := by simp; omega
            have HS : Hid (v = R s (k + 1) line (t :: rest)) := by show _ = _; rw [unhide HR, R_pipe_cons hlt (by rw [hb]; exact hc)]
            clear HR hc hb
            go_wp2
            go_roundw
            case rel => exact ⟨k + 1, line, t :: rest, by omega, by omega, by simp; omega, by go_num, rfl, unhide HO, unhide HB, unhide HS⟩
            case measure => simp [RowKit.intOf]; omega
        have hn124 := hc
        clear hc
        by_cases hc : (s[k]).toNat = 125
        · have e32 : (((s[k]).toNat : Int) == 32) = false := by rw [hc]; rfl
          have e9 : (((s[k]).toNat : Int) == 9) = false := by rw [hc]; rfl
          have e10 : (((s[k]).toNat : Int) == 10) = false := by rw [hc]; rfl
          have e35 : (((s[k]).toNat : Int) == 35) = false := by rw [hc]; rfl
          have e124 : (((s[k]).toNat : Int) == 124) = false := by rw [hc]; rfl
          have e125 : (((s[k]).toNat : Int) == 125) = true := by rw [hc]; rfl
          have e123 : (((s[k]).toNat : Int) == 123) = false := by rw [hc]; rfl
          have e39 : (((s[k]).toNat : Int) == 39) = false := by rw [hc]; rfl
          cases st with
          | nil =>
            have HS : Hid (v = some line) := by show _ = _; rw [unhide HR, R_close_nil hlt (by rw [hb]; exact hc)]
            clear HR hc hb
            rcases (unhide HO).2 with ⟨rfl, _⟩ | ⟨g, cap, cur, rfl, _⟩
            · go_wp2
              go_ret2
              refine ⟨?_, unhide HB⟩
              rw [unhide HS]
              rfl
            · simp only [List.length_nil]
              go_wp2
              go_ret2
              refine ⟨?_, unhide HB⟩
              rw [unhide HS]
              rfl
          | cons t rest =>
            rcases (unhide HO).2 with ⟨_, hn0⟩ | ⟨g, cap, cur, rfl, _, _, hncap, hcapm, _, _⟩
            · simp at hn0
            simp only [List.length_cons] at HO hncap hst ⊢
            have hg0 : (((rest.length : Int) + 1) == 0) = false := by simp; omega
            have hg1 : (((rest.length + 1 : Nat) : Int) == 0) = false := by simp; omega
            have HS : Hid (v = R s (k + 1) line rest) := by show _ = _; rw [unhide HR, R_close_cons hlt (by rw [hb]; exact hc)]
            have hl1 : (0 : Int) ≤ (rest.length : Int) := by omega
            have hl2 : (rest.length : Int) ≤ (cap : Int) := by omega
            have hl3 : ((rest.length + 1 : Nat) : Int) - 1 = (rest.length : Int) := by omega
            have hcapm' : cap ≤ 9223372036854775807 := by unfold maxLen at hcapm; omega
            have HO2 := hide (own_pop (unhide HO))
            clear HR hc hb HO
            go_wp2
            go_roundw
            case rel => exact ⟨k + 1, line, rest, by omega, by omega, by omega, by go_num, rfl, unhide HO2, unhide HB, unhide HS⟩
            case measure => simp [RowKit.intOf]; omega
        have hn125 := hc
        clear hc
        by_cases hc : (s[k]).toNat = 123
        · have e32 : (((s[k]).toNat : Int) == 32) = false := by rw [hc]; rfl
          have e9 : (((s[k]).toNat : Int) == 9) = false := by rw [hc]; rfl
          have e10 : (((s[k]).toNat : Int) == 10) = false := by rw [hc]; rfl
          have e35 : (((s[k]).toNat : Int) == 35) = false := by rw [hc]; rfl
          have e124 : (((s[k]).toNat : Int) == 124) = false := by rw [hc]; rfl
          have e125 : (((s[k]).toNat : Int) == 125) = false := by rw [hc]; rfl
          have e123 : (((s[k]).toNat : Int) == 123) = true := by rw [hc]; rfl
          have e39 : (((s[k]).toNat : Int) == 39) = false := by rw [hc]; rfl
          have HS : Hid (v = R s (k + 1) line (line :: st)) := by show _ = _; rw [unhide HR, R_open hlt (by rw [hb]; exact hc)]
          clear HR hc hb
          go_wp2_with (first
            | (at_builtin; refine wpList_append_own_at _ rfl _ _ 38 rfl w1.heap.size 3 i0 (.int .i64 0) 1 8 Tryd.underlying38 hi hz0 hz1 hz2 rfl (by decide) _ _ _ rfl ((unhide HO).alloc _) ⟨wr.heap.size, 0, none⟩ 1 1 [.int .i64 (line : Int)] rfl rfl (cell_one_new _ _ _) (fun x hx => by simp at hx; subst hx; rfl) (by unfold maxLen; omega) (by omega) (by have := (unhide HB).size; simp; omega) ?_; intro v' w3 hown' hgrow3 _ _; have HX := hide (show w3.ownsRow w1.heap.size 3 1 v' (st.length + 1) (flat (line :: st)) ∧ Below w1.heap.size w1 w3 from ⟨by rw [flat_cons]; exact hown', Below.grown ((unhide HB).alloc (unhide HB).size _) hgrow3 (by have := (unhide HB).size; simp; omega) (fun j hj => ((unhide HO).lt _ hj).1)⟩); clear hown' hgrow3))
          exact ⟨⟨k + 1, line, line :: st, by omega, by omega, by simp; omega, by go_num, rfl, (unhide HX).1, (unhide HX).2, unhide HS⟩, by simp [RowKit.intOf]; omega⟩
        have hn123 := hc
        clear hc
        by_cases hc : (s[k]).toNat = 39
        · have e32 : (((s[k]).toNat : Int) == 32) = false := by rw [hc]; rfl
          have e9 : (((s[k]).toNat : Int) == 9) = false := by rw [hc]; rfl
          have e10 : (((s[k]).toNat : Int) == 10) = false := by rw [hc]; rfl
          have e35 : (((s[k]).toNat : Int) == 35) = false := by rw [hc]; rfl
          have e124 : (((s[k]).toNat : Int) == 124) = false := by rw [hc]; rfl
          have e125 : (((s[k]).toNat : Int) == 125) = false := by rw [hc]; rfl
          have e123 : (((s[k]).toNat : Int) == 123) = false := by rw [hc]; rfl
          have e39 : (((s[k]).toNat : Int) == 39) = true := by rw [hc]; rfl
          have HQ1 := hide (fun hq => R_quote_none (line := line) (st := st) hlt (show byt s k = 39 by rw [hb]; exact hc) hq)
          have HQ2 := hide (fun j nl hq => R_quote_some (line := line) (st := st) (j := j) (nl := nl) hlt (show byt s k = 39 by rw [hb]; exact hc) hq)
          clear hc hb
          go_wp2_with fail
          refine (skipQuote_any s k wr hs hlt).mono ?_
          rintro e w2 ⟨(⟨j, nl, hq, rfl⟩ | ⟨hq, a, b, rfl⟩), rfl⟩
          · have HS : Hid (v = R s j (line + nl) st) := (unhide HR).trans ((unhide HQ2) j nl hq)
            obtain ⟨q1, q2, q3, q4⟩ := quo_lt hq
            clear HR HQ1 HQ2 hq
            go_wp2
            go_roundw
            case rel => exact ⟨j, line + nl, st, by omega, by omega, by omega, rfl, by go_num, unhide HO, unhide HB, unhide HS⟩
            case measure => simp [RowKit.intOf]; omega
          · have HS : Hid (v = some line) := (unhide HR).trans ((unhide HQ1) hq)
            clear HR HQ1 HQ2 hq
            go_wp2
            go_ret2
            refine ⟨?_, unhide HB⟩
            rw [unhide HS]
            rfl
        have hn39 := hc
        clear hc
        have e32 : (((s[k]).toNat : Int) == 32) = false := beq_eq_false_iff_ne.2 (by omega)
        have e9 : (((s[k]).toNat : Int) == 9) = false := beq_eq_false_iff_ne.2 (by omega)
        have e10 : (((s[k]).toNat : Int) == 10) = false := beq_eq_false_iff_ne.2 (by omega)
        have e35 : (((s[k]).toNat : Int) == 35) = false := beq_eq_false_iff_ne.2 (by omega)
        have e124 : (((s[k]).toNat : Int) == 124) = false := beq_eq_false_iff_ne.2 (by omega)
        have e125 : (((s[k]).toNat : Int) == 125) = false := beq_eq_false_iff_ne.2 (by omega)
        have e123 : (((s[k]).toNat : Int) == 123) = false := beq_eq_false_iff_ne.2 (by omega)
        have e39 : (((s[k]).toNat : Int) == 39) = false := beq_eq_false_iff_ne.2 (by omega)
        have hnd : ¬ isDelim (byt s k) := by unfold isDelim; rw [hb]; omega
        have HS : Hid (v = R s (skipW s (s.size - k) k) line st) := by show _ = _; rw [unhide HR, R_word hlt hnd (by rw [hb]; omega)]
        have hsk := skipW_lt hlt hnd
        clear HR hb hnd
        go_wp2_with fail
        refine (skipWord_any s k wr hs hk).mono ?_
        rintro e w2 ⟨rfl, rfl⟩
        generalize skipW s (s.size - k) k = k1 at hsk HS ⊢
        go_wp2
        go_roundw
        case rel => exact ⟨k1, line, st, by omega, by omega, by omega, rfl, rfl, unhide HO, unhide HB, unhide HS⟩
        case measure => simp [RowKit.intOf]; omega
      · have hlt' : ¬ (k : Int) < (s.size : Int) := by omega
        have ek : k = s.size := by omega
        subst ek
        cases st with
        | nil =>
          have HS : Hid (v = none) := by show _ = _; rw [unhide HR, R_end_nil]
          clear HR
          rcases (unhide HO).2 with ⟨rfl, _⟩ | ⟨g, cap, cur, rfl, _⟩
          · go_wp2
            go_ret2
            refine ⟨?_, unhide HB⟩
            rw [unhide HS]
            rfl
          · simp only [List.length_nil]
            go_wp2
            go_ret2
            refine ⟨?_, unhide HB⟩
            rw [unhide HS]
            rfl
        | cons t rest =>
          have HS : Hid (v = some t) := by show _ = _; rw [unhide HR, R_end_cons]
          clear HR
          rcases (unhide HO).2 with ⟨_, hn0⟩ | ⟨g, cap, cur, rfl, _, _, hncap, hcapm, _, _⟩
          · simp at hn0
          simp only [List.length_cons] at HO hncap hst ⊢
          have ct := ((unhide HO).cellAt rest.length (by omega)).trans (flat_top t rest)
          have hg0 : (0 : Int) < (rest.length : Int) + 1 := by omega
          have hl2 : (rest.length : Int) < (rest.length : Int) + 1 := by omega
          have hl3 : ((rest.length + 1 : Nat) : Int) - 1 = (rest.length : Int) := by omega
          have hl4 : rest.length < rest.length + 1 := by omega
          have hl5 : (rest.length : Int) < ((rest.length + 1 : Nat) : Int) := by omega
          have hl6 : (0 : Int) ≤ (rest.length : Int) := by omega
          have hwr : IntKind.i64.wrap (rest.length : Int) = (rest.length : Int) := by rw [IntKind.wrap_i64]; omega
          go_wp2_with fail
          go_quiet (fail)
          go_wp2
          go_ret2
          refine ⟨?_, below_drewN (unhide HB) _⟩
          rw [unhide HS]
          rfl
end Go.Proofs.Qxb6002438aDoor
