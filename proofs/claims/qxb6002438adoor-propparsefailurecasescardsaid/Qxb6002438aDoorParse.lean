/-
  Parse.
-/
import Derived.Test.Qxb6002438aDoorNodes
import Derived.Test.Qxb6002438aDoorQuoted
import Derived.Test.Qxb6002438aDoorRune
import Derived.Test.Qxb6002438aDoorVal
namespace Go.Proofs.Qxb6002438aDoor
open Go.RowKit

theorem Tryd.info68 : (Tryd.prog.info? 68).map (fun i => (i.zero, i.size, i.bytes)) = some (some (.agg #[.int .i64 0, .slice none 0 0]), 2, 32) := by kernel_rfl
/-- What becomes of a script: none: it parses; else the line of the mistake. -/
def answer (s : ByteArray) : Option Nat := if 0 < badLine s then some (badLine s) else R s 0 1 []
def PPost (s : ByteArray) (w : World) (e : Ending) (w' : World) : Prop :=
  Below w.heap.size w w' ∧ ∃ v1 v2, e = .returned (.tuple #[v1, v2]) ∧ ((answer s = none ∧ v2 = .nilIface) ∨ ∃ l, answer s = some l ∧ EB w.heap.size l v2 w')
theorem EB.of {B B' l : Nat} {v : Value} {w : World} (h : EB B l v w) (hB : B' ≤ B) : EB B' l v w := by
  obtain ⟨b, m, h1, h2, h3⟩ := h
  exact ⟨b, m, Nat.le_trans hB h1, h2, h3⟩

set_option maxRecDepth 100000 in
set_option maxHeartbeats 4000000 in
theorem parse_any (s : ByteArray) (w : World) (m : Int) (hs : s.size ≤ 1048576) (hm : w.cell? ⟨2, 0, none⟩ = some (.int .i64 m)) (hT : Lib.Utf8Tabs 0 1 w) : Calls Tryd.prog 7 #[.string s] w fun e w' => PPost s w e w' := by
  have HV := hide (valid8_any s w m hs hm hT)
  have HNO := hide (fun g => nodes_any ib_any contains_any s hs g (quoted_any s hs g) s.size)
  obtain ⟨i0, hi68, hz0, hz1, hz2⟩ := info_parts Tryd.info68
  clear hm hT
  go_enter Tryd.func7, Tryd.ntmps7
  go_wp2_with fail
  refine (unhide HV).mono ?_
  clear HV
  rintro e w1 ⟨hbel, (⟨hb0, rfl⟩ | ⟨hbp, v, rfl, heb⟩)⟩
  · have HB1 := hide hbel
    have hle := hbel.size
    have HANS : Hid (answer s = R s 0 1 []) := by show _ = _; unfold answer; rw [if_neg (by omega)]
    clear hbel hb0
    have HP2 : Hid (PB w1.heap.size s 0 1 (w1.alloc (.cells #[.string s, .int .i64 0, .int .i64 1, .pointer none] 64))) := hide (heap_alloc_new _ _)
    have HB2 : Hid (Below w.heap.size w (w1.alloc (.cells #[.string s, .int .i64 0, .int .i64 1, .pointer none] 64))) := hide ((unhide HB1).alloc hle _)
    have hz2' : (w1.alloc (.cells #[.string s, .int .i64 0, .int .i64 1, .pointer none] 64)).heap.size = w1.heap.size + 1 := by simp
    go_wp2_with fail
    clear HB1
    generalize w1.alloc (.cells #[.string s, .int .i64 0, .int .i64 1, .pointer none] 64) = w2 at HP2 HB2 hz2' ⊢
    generalize w1.heap.size = g at HP2 hz2' hle ⊢
    go_loopw [6, 7, 8, 9] (fun cv _ _ _ wr => ∃ (k ln n : Nat) (xs : List Value), k ≤ s.size ∧ ln ≤ k + 1 ∧ n ≤ k ∧ PB g s k ln wr ∧ Below w.heap.size w wr ∧ g + 1 ≤ wr.heap.size ∧ wr.ownsRow (g + 1) 68 2 cv n xs ∧ R s 0 1 [] = R s k ln []) (fun _ _ _ _ wr => left s g wr)
    case atStart => exact ⟨0, 1, 0, [], by omega, by omega, by omega, unhide HP2, unhide HB2, by omega, World.ownsRow_nil _ _ _ _, rfl⟩
    case round =>
      clear HP2 HB2 hz2'
      obtain ⟨k, ln, n, xs, hk, hln, hn, hpb, hbel, hgz, hown, hR⟩ := hrel
      have HL := hide (left_eq hpb)
      have HP := hide hpb
      have HB := hide hbel
      have HO := hide hown
      have HR := hide hR
      have c0 := hpb.c0
      have c1 := hpb.c1
      clear hpb hbel hown hR
      by_cases hlt : k < s.size
      · have hlt1 : (k : Int) < (s.size : Int) := by omega
        go_wp2_with fail
        go_quiet (fail)
        have HP1 := hide ((unhide HP).drewN nq)
        have HB1 := hide (Qxb6002438aDoor.below_drewN (unhide HB) nq)
        have HO1 : Hid ((wr.drewN nq).ownsRow (g + 1) 68 2 u6 n xs) := HO
        have hgz1 : g + 1 ≤ (wr.drewN nq).heap.size := hgz
        generalize wr.drewN nq = wr1 at HP1 HB1 HO1 hgz1 ⊢
        clear c0 c1 HP HB HO hgz
        have c2 := (unhide HP1).c2
        go_wp2_with fail
        refine ((unhide HNO) g none k ln wr1 (by omega) hk hln (St.start (unhide HP1) (fun p hp => by cases hp))).mono ?_
        have hwz := (unhide HB1).size
        have hnr : ∀ j, u6.ownBlock = some j → ¬ okO g none j := fun j hj e => by
          have := ((unhide HO1).lt j hj).1
          rcases e with e | ⟨q, hq, _⟩
          · omega
          · cases hq
        have hng : ∀ j, j < w.heap.size → ¬ okO g none j := fun j hj e => by
          rcases e with e | ⟨q, hq, _⟩
          · omega
          · cases hq
        rintro e w3 (⟨v, k', ln', rfl, hst, hk1, hk2, hk3, hk4, hRn⟩ | ⟨v, l, k', ln', rfl, heb, hst, hk1, hk2, hRn⟩)
        · have HP3 := hide hst.p
          have HR3 : Hid (R s 0 1 [] = R s k' ln' []) := hide ((unhide HR).trans (hRn []))
          have HB3 : Hid (Below w.heap.size w w3) := hide ((unhide HB1).trans ⟨hst.kept.1, hst.kept.2.1, hst.kept.2.2.1, hst.kept.size, fun j hj => hst.kept.2.2.2.2 j (by omega) (hng j hj)⟩)
          have HO3 := hide (row_of (unhide HO1) fun j hj => hst.kept.2.2.2.2 j ((unhide HO1).lt j hj).2 (hnr j hj))
          have hz3 : g + 1 ≤ w3.heap.size := by have := hst.kept.size; omega
          have hkk := hk4 hlt
          obtain ⟨va, vn, vc, rfl⟩ : ∃ a n c, v = Value.slice a n c := by
            obtain ⟨_, _, _, ho⟩ := hst.own
            rcases ho.2 with ⟨rfl, _⟩ | ⟨_, _, _, rfl, _⟩
            · exact ⟨_, _, _, rfl⟩
            · exact ⟨_, _, _, rfl⟩
          clear hst hRn hk4 hnr hng HP1 HB1 HO1 c2 HR
          by_cases hv : 0 < vn
          · have hv1 : (0 : Int) < (vn : Int) := by omega
            go_wp2_with (first
              | (at_builtin; refine wpList_append_lies _ rfl _ _ _ rfl (g + 1) 68 i0 _ 2 32 Tryd.underlying25 hi68 hz0 hz1 hz2 rfl (by omega) u6 n xs rfl ((unhide HO3).alloc _) ⟨w3.heap.size, 0, none⟩ 1 1 [.int .i64 (ln : Int), .slice va vn vc] rfl rfl (World.news_of_block (cs := #[.int .i64 (ln : Int), .slice va vn vc]) (t := 68) (fr := (0, 0)) (heap_at _ _ _ (by simp))) (by simp [Value.oneCell']) (by omega) (by unfold maxLen; omega) (by omega) (by simp; omega) (w3.heap.size + 1) (by simp) ?_; intro gg cap w5 hown5 hgrow hat hlt5))
            have hrow : ∀ j, u6.ownBlock = some j → g + 1 ≤ j := fun j hj => ((unhide HO3).lt j hj).1
            have HP5 : PB g s k' ln' w5 := ((unhide HP3).alloc _).grown hgrow (fun e => by have := hrow g e.symm; omega)
            have HB5 : Below w.heap.size w w5 := Below.grown ((unhide HB3).alloc (by omega) _) hgrow (by simp; omega) (fun j hj => by have := hrow j hj; omega)
            refine ⟨⟨k', ln', n + 1, _, hk2, hk3, by omega, HP5, HB5, by have := hgrow.size; simp at this; omega, hown5, unhide HR3⟩, ?_⟩
            rw [left_eq HP5, unhide HL]
            omega
          · have hv1 : ¬ (0 : Int) < (vn : Int) := by omega
            go_wp2
            go_roundw
            case rel => exact ⟨k', ln', n, xs, hk2, hk3, by omega, unhide HP3, unhide HB3, hz3, unhide HO3, unhide HR3⟩
            case measure =>
              rw [left_eq (unhide HP3), unhide HL]
              omega
        · have HR3 : Hid (R s 0 1 [] = some l) := hide ((unhide HR).trans (hRn []))
          have HB3 : Hid (Below w.heap.size w w3) := hide ((unhide HB1).trans ⟨hst.kept.1, hst.kept.2.1, hst.kept.2.2.1, hst.kept.size, fun j hj => hst.kept.2.2.2.2 j (by omega) (hng j hj)⟩)
          obtain ⟨eb, em, he1, rfl, he2⟩ := heb
          have HE := hide he2
          clear he2 hst hRn hnr hng HP1 HO1 c2 HR
          go_wp2
          go_ret2
          exact ⟨unhide HB3, _, _, rfl, Or.inr ⟨l, (unhide HANS).trans (unhide HR3), eb, em, by omega, rfl, unhide HE⟩⟩
      · have hlt1 : ¬ (k : Int) < (s.size : Int) := by omega
        obtain rfl : k = s.size := by omega
        go_wp2_with fail
        go_quiet (fail)
        have HB1 := hide (Qxb6002438aDoor.below_drewN (unhide HB) nq)
        generalize wr.drewN nq = wr1 at HB1 ⊢
        clear c0 c1 HP HB HO
        go_wp2
        go_ret2
        exact ⟨unhide HB1, _, _, rfl, Or.inl ⟨(unhide HANS).trans ((unhide HR).trans (R_end_nil s ln)), rfl⟩⟩
  · obtain ⟨eb, em, he1, rfl, he2⟩ := heb
    have HE := hide he2
    have HB1 := hide hbel
    have HANS : Hid (answer s = some (badLine s)) := by show _ = _; unfold answer; rw [if_pos hbp]
    clear he2 hbel
    go_wp2
    go_ret2
    exact ⟨unhide HB1, _, _, rfl, Or.inr ⟨_, unhide HANS, eb, em, he1, rfl, unhide HE⟩⟩
end Go.Proofs.Qxb6002438aDoor
