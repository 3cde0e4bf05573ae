/-
  unicode.SimpleFold at every rune: it returns 'sf r'; the world: some draws.
-/
import Derived.Test.Qxb6604493aFmtOrbit
import Derived.Test.Qxb6604493aFmtShelf
import Derived.Test.Qxb6604493aFmtSizes
import Derived.Shelf.Unicode.CaseLaid
import Derived.Deep.LoopGhost
namespace Go.Proofs.Qxb6604493aFmt
open Go.RowKit Go.Lib

/-- The three tables under SimpleFold, as they lie in memory. -/
structure FoldTabs (w : World) : Prop where
  asc : ∀ i, i < 128 → w.cell? ⟨0, i, none⟩ = some (.int .u16 (ascT.getD i 0 : Nat))
  orb : ∃ R o c, w.cell? ⟨1, 0, none⟩ = some (.slice (some ⟨R, o, none⟩) 94 c) ∧
    ∀ i, i < 94 → w.cell? ⟨R, o + i * 2, none⟩ = some (.int .u16 ((orbT.getD i (0, 0)).1 : Nat)) ∧ w.cell? ⟨R, o + i * 2 + 1, none⟩ = some (.int .u16 ((orbT.getD i (0, 0)).2 : Nat))
  cas : CaseVar 2 caseA w

theorem orbT_u16 : orbT.all (fun p => decide (p.1 < 65536) && decide (p.2 < 65536)) = true := by decide +kernel
theorem orbT_at (i : Nat) (hi : i < 94) : (orbT.getD i (0, 0)).1 < 65536 ∧ (orbT.getD i (0, 0)).2 < 65536 := by
  have hl : i < orbT.length := by rw [orbT_length]; exact hi
  have e : orbT.getD i (0, 0) = orbT[i] := by rw [List.getD_eq_getElem?_getD, List.getElem?_eq_getElem hl]; rfl
  have := List.all_eq_true.1 orbT_u16 _ (List.getElem_mem hl)
  rw [e]
  simpa using this

set_option maxRecDepth 100000 in
set_option maxHeartbeats 400000 in
theorem simpleFold_ascii (r : Nat) (hr : r < 128) (w : World) (v : Nat) (hv : w.cell? ⟨0, r, none⟩ = some (.int .u16 (v : Nat))) (hv2 : v < 65536) :
    Calls Tryf.prog 28 #[.int .i32 (r : Int)] w fun e w' => e = .returned (.int .i32 (v : Int)) ∧ w' = w := by
  have h1 : (r : Int) < 128 := by omega
  go_enter Tryf.func28, Tryf.ntmps28
  go_wp2
  go_ret
  exact ⟨rfl, rfl⟩

theorem orbIdx_done (r f lo hi : Nat) (h : ¬ lo < hi) : orbIdx r f lo hi = lo := by
  cases f <;> simp [orbIdx, h]

/-- What SimpleFold answers. -/
def SfPost (r : Nat) (w : World) (e : Ending) (w' : World) : Prop := e = .returned (.int .i32 ((sf r : Nat) : Int)) ∧ ∃ q, w' = w.drewN q

theorem sf_miss (r : Nat) (hr : 128 ≤ r) (hno : ¬ (orbIdx r 95 0 94 < 94 ∧ (orbT.getD (orbIdx r 95 0 94) (0, 0)).1 = r)) : sf r = (sfCase r).toNat := by
  unfold sf
  rw [if_neg (by omega), if_neg hno]
theorem sf_none (r : Nat) (hr : 128 ≤ r) (hno : ¬ (orbIdx r 95 0 94 < 94 ∧ (orbT.getD (orbIdx r 95 0 94) (0, 0)).1 = r))
    (hL : lookupIdx caseA (r : Int) (caseA.size + 1) 0 caseA.size = none) : ((sf r : Nat) : Int) = (r : Int) := by
  rw [sf_miss r hr hno]
  unfold sfCase
  rw [hL]
  simp
theorem sf_one (r i : Nat) (x : CaseRow) (hr : 128 ≤ r) (hno : ¬ (orbIdx r 95 0 94 < 94 ∧ (orbT.getD (orbIdx r 95 0 94) (0, 0)).1 = r))
    (hL : lookupIdx caseA (r : Int) (caseA.size + 1) 0 caseA.size = some i) (hx : caseA.getD i (0, 0, 0, 0, 0) = x) (h0 : 0 ≤ convertR 1 (r : Int) x) (hne : convertR 1 (r : Int) x ≠ (r : Int)) :
    ((sf r : Nat) : Int) = convertR 1 (r : Int) x := by
  rw [sf_miss r hr hno]
  unfold sfCase
  rw [hL]
  simp only [hx]
  rw [if_neg hne]
  omega
theorem sf_two (r i : Nat) (x : CaseRow) (hr : 128 ≤ r) (hno : ¬ (orbIdx r 95 0 94 < 94 ∧ (orbT.getD (orbIdx r 95 0 94) (0, 0)).1 = r))
    (hL : lookupIdx caseA (r : Int) (caseA.size + 1) 0 caseA.size = some i) (hx : caseA.getD i (0, 0, 0, 0, 0) = x) (h0 : 0 ≤ convertR 0 (r : Int) x) (he : convertR 1 (r : Int) x = (r : Int)) :
    ((sf r : Nat) : Int) = convertR 0 (r : Int) x := by
  rw [sf_miss r hr hno]
  unfold sfCase
  rw [hL]
  simp only [hx]
  rw [if_pos he]
  omega

set_option maxRecDepth 100000 in
set_option maxHeartbeats 1000000 in
theorem simpleFold_high (r : Nat) (hr : 128 ≤ r) (hr2 : r ≤ 1114111) (w : World) (hT : FoldTabs w) :
    Calls Tryf.prog 28 #[.int .i32 (r : Int)] w fun e w' => SfPost r w e w' := by
  obtain ⟨R, o, c, hg, hrows⟩ := hT.orb
  obtain ⟨R2, o2, cc2, hg2, hTab⟩ := hT.cas
  have HTab := hide hTab
  clear hT hTab
  have h1 : ¬ (r : Int) < 128 := by omega
  have h2 : ¬ (1114111 : Int) < (r : Int) := by omega
  generalize hANS : orbIdx r 95 0 94 = ANS
  have HANS := hide hANS
  clear hANS
  go_enter Tryf.func28, Tryf.ntmps28
  go_wp2
  go_loopg [3, 4] 95 (fun g s3 s4 wx => wx = w ∧ ∃ lo hi : Nat, s3 = .int .i64 lo ∧ s4 = .int .i64 hi ∧ lo ≤ hi ∧ hi ≤ 94 ∧ hi - lo < g ∧ orbIdx r g lo hi = ANS)
  case atStart => exact ⟨rfl, 0, 94, rfl, rfl, by omega, by omega, by omega, unhide HANS⟩
  case round =>
    obtain ⟨rfl, lo, hi, rfl, rfl, hlh, hhn, hg', hl⟩ := hrel
    by_cases hlt : lo < hi
    · obtain ⟨g', rfl⟩ : ∃ g', gk = g' + 1 := ⟨gk - 1, by omega⟩
      have hz : (lo : Int) < (hi : Int) := by omega
      obtain ⟨m, hm⟩ : ∃ m, (lo + hi) / 2 = m := ⟨_, rfl⟩
      have hmr : lo ≤ m ∧ m < hi := by omega
      have hmz : ((lo : Int) + (hi : Int)) / 2 = (m : Int) := by omega
      obtain ⟨c0, -⟩ := hrows m (by omega)
      have o0 := (orbT_at m (by omega)).1
      simp only [orbIdx, hlt, if_true, hm] at hl
      obtain ⟨Fr, hFr⟩ : ∃ Fr, (orbT.getD m (0, 0)).1 = Fr := ⟨_, rfl⟩
      rw [hFr] at c0 o0 hl
      clear hFr hrows
      by_cases hb : Fr < r
      · rw [if_pos hb] at hl
        have HL := hide hl
        clear hl
        have hb' : (Fr : Int) < (r : Int) := by omega
        go_wp2
        go_roundg g'
        case measure => omega
        case rel => exact ⟨rfl, m + 1, hi, by first | rfl | simp, rfl, by omega, by omega, by omega, unhide HL⟩
      · rw [if_neg hb] at hl
        have HL := hide hl
        clear hl
        have hb' : ¬ (Fr : Int) < (r : Int) := by omega
        go_wp2
        go_roundg g'
        case measure => omega
        case rel => exact ⟨rfl, lo, m, rfl, rfl, by omega, by omega, by omega, unhide HL⟩
    · rw [orbIdx_done _ _ _ _ hlt] at hl
      subst hl
      have hz : ¬ ((lo : Int) < (hi : Int)) := by omega
      have hit : (∃ Fr To : Nat, lo < 94 ∧ wr.cell? ⟨R, o + lo * 2, none⟩ = some (.int .u16 (Fr : Nat)) ∧ wr.cell? ⟨R, o + lo * 2 + 1, none⟩ = some (.int .u16 (To : Nat)) ∧ Fr < 65536 ∧ To < 65536 ∧ ((Fr : Int) == (r : Int)) = true ∧ Hid (sf r = To)) ∨
          (∃ Fr : Nat, lo < 94 ∧ wr.cell? ⟨R, o + lo * 2, none⟩ = some (.int .u16 (Fr : Nat)) ∧ Fr < 65536 ∧ ((Fr : Int) == (r : Int)) = false ∧ Hid (¬ (orbIdx r 95 0 94 < 94 ∧ (orbT.getD (orbIdx r 95 0 94) (0, 0)).1 = r))) ∨
          (∃ Fr : Nat, 94 ≤ lo ∧ Fr = 0 ∧ Fr < 1 ∧ True ∧ Hid (¬ (orbIdx r 95 0 94 < 94 ∧ (orbT.getD (orbIdx r 95 0 94) (0, 0)).1 = r))) := by
        by_cases h94 : lo < 94
        · obtain ⟨c0, c1⟩ := hrows lo h94
          obtain ⟨o0, o1⟩ := orbT_at lo h94
          by_cases hb : (orbT.getD lo (0, 0)).1 = r
          · refine Or.inl ⟨_, _, h94, c0, c1, o0, o1, by rw [hb]; simp, ?_⟩
            show sf r = _
            unfold sf
            rw [if_neg (by omega), unhide HANS, if_pos ⟨h94, hb⟩]
          · refine Or.inr (Or.inl ⟨_, h94, c0, o0, by rw [beq_eq_false_iff_ne]; omega, ?_⟩)
            show ¬ _
            rw [unhide HANS]
            exact fun h => hb h.2
        · refine Or.inr (Or.inr ⟨0, by omega, rfl, by omega, trivial, ?_⟩)
          show ¬ _
          rw [unhide HANS]
          exact fun h => h94 h.1
      clear hrows HANS
      rcases hit with ⟨Fr, To, h94, c0, c1, o0, o1, hb, Hsf⟩ | ⟨Fr, h94, c0, o0, hb, Hno⟩ | ⟨Fr, h94, c0, o0, hb, Hno⟩
      · have h94' : (lo : Int) < 94 := by omega
        go_wp2
        go_ret
        exact ⟨by rw [unhide Hsf]; rfl, 0, rfl⟩
      · have h94' : (lo : Int) < 94 := by omega
        go_wp2_with fail
        refine (Tryf.unicode_lookupCaseRange caseA R2 o2 cc2 (r : Int) wr (unhide HTab) caseA_ok2.ok (by rw [Lib.caseA_size]; omega)).mono ?_
        cases hL : lookupIdx caseA (r : Int) (caseA.size + 1) 0 caseA.size with
        | none =>
          have Hs := hide (sf_none r hr (unhide Hno) hL)
          rintro e w1 ⟨rfl, rfl⟩
          clear hL
          go_wp2
          go_ret
          exact ⟨by rw [unhide Hs]; rfl, 0, rfl⟩
        | some i =>
          obtain ⟨hi1, hlo1, hhi1, -, hc1, hc0⟩ := row_found r i hL
          obtain ⟨t0, t1, t2, t3, t4⟩ := (unhide HTab) i hi1
          have hH := (caseA_ok2 i hi1).2
          have H1 := fun x hx h0 hne => hide (sf_one r i x hr (unhide Hno) hL hx h0 hne)
          have H2 := fun x hx h0 he => hide (sf_two r i x hr (unhide Hno) hL hx h0 he)
          generalize hx : caseA.getD i (0, 0, 0, 0, 0) = x at hlo1 hhi1 hc1 hc0 t0 t1 t2 t3 t4 hH
          have H1' : Hid (0 ≤ convertR 1 (r : Int) x → convertR 1 (r : Int) x ≠ (r : Int) → ((sf r : Nat) : Int) = convertR 1 (r : Int) x) := fun a b => unhide (H1 x hx a b)
          have H2' : Hid (0 ≤ convertR 0 (r : Int) x → convertR 1 (r : Int) x = (r : Int) → ((sf r : Nat) : Int) = convertR 0 (r : Int) x) := fun a b => unhide (H2 x hx a b)
          rintro e w1 ⟨rfl, rfl⟩
          clear hL H1 H2 hx hi1 t1 t4
          have w1' : wrap32 (convertR 1 (r : Int) x) = convertR 1 (r : Int) x := by unfold wrap32; omega
          have w0' : wrap32 (convertR 0 (r : Int) x) = convertR 0 (r : Int) x := by unfold wrap32; omega
          have cv1 := Tryf.unicode_convertCase 1 (by omega) (r : Int) R2 (o2 + i * 5) x w1 hlo1 hhi1 hH t0 t3
          have cv0 := fun q => Tryf.unicode_convertCase 0 (by omega) (r : Int) R2 (o2 + i * 5) x (w1.drewN q) hlo1 hhi1 hH (by rw [World.cell?_drewN]; exact t0) (by rw [World.cell?_drewN]; exact t2)
          rw [w1'] at cv1
          rw [w0'] at cv0
          clear w1' w0'
          obtain ⟨b1, hb1⟩ : ∃ b1, convertR 1 (r : Int) x = b1 := ⟨_, rfl⟩
          obtain ⟨b0, hb0⟩ : ∃ b0, convertR 0 (r : Int) x = b0 := ⟨_, rfl⟩
          rw [hb1] at cv1 hc1 H1' H2'
          rw [hb0] at cv0 hc0 H2'
          clear hb1 hb0 t0 t2 t3
          have CV1 := hide cv1
          have CV0 := hide cv0
          clear cv1 cv0 hlo1 hhi1 hH
          go_wp2_with fail
          refine (unhide CV1).mono ?_
          rintro e w2 ⟨rfl, q, rfl⟩
          by_cases he : b1 = (r : Int)
          · have he' : (b1 != (r : Int)) = false := by simp [he]
            have Hs := hide ((unhide H2') hc0.1 he)
            clear H1' H2' he CV1
            go_wp2_with fail
            refine ((unhide CV0) q).mono ?_
            rintro e w3 ⟨rfl, q2, rfl⟩
            clear CV0
            go_wp2
            go_ret
            exact ⟨by rw [unhide Hs]; rfl, q + q2, rfl⟩
          · have he' : (b1 != (r : Int)) = true := by simp [he]
            have Hs := hide ((unhide H1') hc1.1 he)
            clear H1' H2' he CV1 CV0
            go_wp2
            go_ret
            exact ⟨by rw [unhide Hs]; rfl, q, rfl⟩
      · have h94' : ¬ (lo : Int) < 94 := by omega
        go_wp2_with fail
        refine (Tryf.unicode_lookupCaseRange caseA R2 o2 cc2 (r : Int) wr (unhide HTab) caseA_ok2.ok (by rw [Lib.caseA_size]; omega)).mono ?_
        cases hL : lookupIdx caseA (r : Int) (caseA.size + 1) 0 caseA.size with
        | none =>
          have Hs := hide (sf_none r hr (unhide Hno) hL)
          rintro e w1 ⟨rfl, rfl⟩
          clear hL
          go_wp2
          go_ret
          exact ⟨by rw [unhide Hs]; rfl, 0, rfl⟩
        | some i =>
          obtain ⟨hi1, hlo1, hhi1, -, hc1, hc0⟩ := row_found r i hL
          obtain ⟨t0, t1, t2, t3, t4⟩ := (unhide HTab) i hi1
          have hH := (caseA_ok2 i hi1).2
          have H1 := fun x hx h0 hne => hide (sf_one r i x hr (unhide Hno) hL hx h0 hne)
          have H2 := fun x hx h0 he => hide (sf_two r i x hr (unhide Hno) hL hx h0 he)
          generalize hx : caseA.getD i (0, 0, 0, 0, 0) = x at hlo1 hhi1 hc1 hc0 t0 t1 t2 t3 t4 hH
          have H1' : Hid (0 ≤ convertR 1 (r : Int) x → convertR 1 (r : Int) x ≠ (r : Int) → ((sf r : Nat) : Int) = convertR 1 (r : Int) x) := fun a b => unhide (H1 x hx a b)
          have H2' : Hid (0 ≤ convertR 0 (r : Int) x → convertR 1 (r : Int) x = (r : Int) → ((sf r : Nat) : Int) = convertR 0 (r : Int) x) := fun a b => unhide (H2 x hx a b)
          rintro e w1 ⟨rfl, rfl⟩
          clear hL H1 H2 hx hi1 t1 t4
          have w1' : wrap32 (convertR 1 (r : Int) x) = convertR 1 (r : Int) x := by unfold wrap32; omega
          have w0' : wrap32 (convertR 0 (r : Int) x) = convertR 0 (r : Int) x := by unfold wrap32; omega
          have cv1 := Tryf.unicode_convertCase 1 (by omega) (r : Int) R2 (o2 + i * 5) x w1 hlo1 hhi1 hH t0 t3
          have cv0 := fun q => Tryf.unicode_convertCase 0 (by omega) (r : Int) R2 (o2 + i * 5) x (w1.drewN q) hlo1 hhi1 hH (by rw [World.cell?_drewN]; exact t0) (by rw [World.cell?_drewN]; exact t2)
          rw [w1'] at cv1
          rw [w0'] at cv0
          clear w1' w0'
          obtain ⟨b1, hb1⟩ : ∃ b1, convertR 1 (r : Int) x = b1 := ⟨_, rfl⟩
          obtain ⟨b0, hb0⟩ : ∃ b0, convertR 0 (r : Int) x = b0 := ⟨_, rfl⟩
          rw [hb1] at cv1 hc1 H1' H2'
          rw [hb0] at cv0 hc0 H2'
          clear hb1 hb0 t0 t2 t3
          have CV1 := hide cv1
          have CV0 := hide cv0
          clear cv1 cv0 hlo1 hhi1 hH
          go_wp2_with fail
          refine (unhide CV1).mono ?_
          rintro e w2 ⟨rfl, q, rfl⟩
          by_cases he : b1 = (r : Int)
          · have he' : (b1 != (r : Int)) = false := by simp [he]
            have Hs := hide ((unhide H2') hc0.1 he)
            clear H1' H2' he CV1
            go_wp2_with fail
            refine ((unhide CV0) q).mono ?_
            rintro e w3 ⟨rfl, q2, rfl⟩
            clear CV0
            go_wp2
            go_ret
            exact ⟨by rw [unhide Hs]; rfl, q + q2, rfl⟩
          · have he' : (b1 != (r : Int)) = true := by simp [he]
            have Hs := hide ((unhide H1') hc1.1 he)
            clear H1' H2' he CV1 CV0
            go_wp2
            go_ret
            exact ⟨by rw [unhide Hs]; rfl, q, rfl⟩

theorem ascT_u16 : ascT.all (fun v => decide (v < 65536)) = true := by decide +kernel
theorem ascT_length : ascT.length = 128 := by decide +kernel
theorem ascT_at (i : Nat) (hi : i < 128) : ascT.getD i 0 < 65536 := by
  have hl : i < ascT.length := by rw [ascT_length]; exact hi
  have e : ascT.getD i 0 = ascT[i] := by rw [List.getD_eq_getElem?_getD, List.getElem?_eq_getElem hl]; rfl
  rw [e]
  simpa using List.all_eq_true.1 ascT_u16 _ (List.getElem_mem hl)

/-- unicode.SimpleFold at every rune. -/
theorem simpleFold_any (r : Nat) (hr2 : r ≤ 1114111) (w : World) (hT : FoldTabs w) :
    Calls Tryf.prog 28 #[.int .i32 (r : Int)] w fun e w' => SfPost r w e w' := by
  by_cases h : r < 128
  · refine (simpleFold_ascii r h w _ (hT.asc r h) (ascT_at r h)).mono ?_
    rintro e w' ⟨rfl, rfl⟩
    refine ⟨?_, 0, rfl⟩
    unfold sf
    rw [if_pos h]
  · exact simpleFold_high r (by omega) hr2 w hT
end Go.Proofs.Qxb6604493aFmt
