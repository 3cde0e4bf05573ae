/-
  parser.quoted: cases of a round.
-/
import Derived.Test.Qxb6002438aDoorQz
namespace Go.Proofs.Qxb6002438aDoor
open Go.RowKit

set_option linter.unusedVariables false in
set_option maxRecDepth 100000 in
set_option maxHeartbeats 4000000 in
theorem quo_done2 (s : ByteArray) (hs : s.size ≤ 1048576) (g i line k nl : Nat) (w wr : World) (u : Nat → Value) (Q : Exit → Act → World → Prop) (HQR : Hid (QQRet s g i line w Q))
    (hline : line ≤ i + 1) (hik : i < k) (hk : k ≤ s.size) (hnl : nl ≤ k) (HS : Hid (QSt s g i line w k nl wr)) (j c : Nat) (HX : Hid (Lib.indexByte (s.extract k s.size).data.toList 39 = (j : Int))) (hj : k + j < s.size) (HC : Hid (Lib.countByte (s.extract k (k + j)).data.toList 10 = c)) (hc : c ≤ j) (hm : ¬ k + j + 1 < s.size) (HQ : Hid (quo s k nl = some (k + j + 1, nl + c))) :
    Code.wp Tryd.prog ((Tryd.f30.body.bind firstLoop).getD .skip) (Exit.then (QK s g i line w wr) Q) ⟨#[.pointer (some ⟨g, 0, none⟩), u 1, u 2, u 3, .int .i64 (line : Int), .int .i64 (i : Int), .pointer (some ⟨w.heap.size, 0, none⟩), u 7, u 8, u 9, u 10, u 11, u 12, u 13, u 14, u 15, u 16, u 17, u 18, u 19, u 20, u 21, u 22, u 23, u 24, u 25, u 26, u 27, u 28, u 29, u 30, u 31, u 32, u 33, u 34, u 35, u 36, u 37, u 38, u 39, u 40, u 41, u 42, u 43, u 44, u 45, u 46, u 47, u 48, u 49, u 50, u 51, u 52, u 53, u 54, u 55, u 56, u 57, u 58, u 59, u 60, u 61, u 62, u 63, u 64, u 65, u 66, u 67, u 68, u 69, u 70, u 71, u 72, u 73, u 74, u 75, u 76, u 77, u 78, u 79, u 80, u 81, u 82, u 83, u 84, u 85, u 86, u 87, u 88, u 89, u 90, u 91, u 92, u 93, u 94, u 95, u 96, u 97, u 98, u 99, u 100, u 101, u 102, u 103, u 104, u 105, u 106, u 107, u 108, u 109, u 110, u 111, u 112, u 113], []⟩ wr := by
  conv => arg 2; whnf
  have HL := hide (left_eq (unhide HS).p)
  have hk0 : (0 : Int) ≤ (k : Int) := by omega
  have hk1 : (k : Int) ≤ (s.size : Int) := by omega
  have c0 := (unhide HS).p.c0
  have c1 := (unhide HS).p.c1
  have ib : ∀ w, Calls Tryd.prog 29 #[.string (s.extract k s.size), .int .u8 39] w fun e w' => e = .returned (.int .i64 (j : Int)) ∧ w' = w := fun w => by rw [← unhide HX]; exact ib_any (s.extract k s.size) 39 w
  have IBX := hide ib
  clear ib
  go_wp2_with fail
  go_quiet ((go_at_call 29; exact Calls.quiet_of_same ((unhide IBX) _)))
  have HS1 := hide ((unhide HS).drewN nq)
  generalize wr.drewN nq = wr1 at HS1 ⊢
  clear c0 c1
  have c0 := (unhide HS1).p.c0
  have c1 := (unhide HS1).p.c1
  have hj1 : (k : Int) ≤ (k : Int) + (j : Int) := by omega
  have hj2 : (k : Int) + (j : Int) ≤ (s.size : Int) := by omega
  go_wp2_with fail
  go_quiet (fail)
  have HS2 := hide ((unhide HS1).drewN nq)
  generalize wr1.drewN nq = wr2 at HS2 ⊢
  clear c0 c1 HS1
  go_wp2_with fail
  have hsz : w.heap.size ≤ wr2.heap.size := (unhide HS2).kept.size
  refine (wstr_any w.heap.size w.heap.size k (s.extract k (k + j)) wr2 (unhide HS2).b (by rw [ByteArray.size_extract]; omega) hsz).mono ?_
  rintro e w3 ⟨rfl, hb3, hbel⟩
  have hp3 : PB g s k (line + nl) w3 := (hbel.block g (unhide HS2).1).trans (unhide HS2).p
  have HP3 := hide hp3
  have HK3 := hide ((unhide HS2).kept.trans (Kept.ofBelow (fun j => j = g) hbel) (Nat.le_refl _) (fun _ _ e => e))
  have HB3 : Hid (IsB w.heap.size w.heap.size (k + j) w3) := hide (by rw [ByteArray.size_extract, show min (k + j) s.size - k = j by omega] at hb3; exact hb3)
  have hg := (unhide HS2).1
  have hq := (unhide HS2).q
  have HQQ := hide hq
  clear hb3 hbel hp3 HS2 hsz hq
  have c2 : w3.cell? ⟨g, 2, none⟩ = some (.int .i64 ((line : Int) + (nl : Int))) := (unhide HP3).c2
  have f2 := (unhide HP3).fz 2
  have cnt : ∀ w, Calls Tryd.prog 37 #[.string (s.extract k (k + j)), .string ⟨#[10]⟩] w fun e w' => e = .returned (.int .i64 (c : Int)) ∧ w' = w := fun w => by rw [← unhide HC]; exact count_nl _ w
  have CNT := hide cnt
  clear cnt
  have hwrap : IntKind.i64.wrap ((line : Int) + (nl : Int) + (c : Int)) = (line : Int) + (nl : Int) + (c : Int) := by rw [IntKind.wrap_i64]; omega
  go_wp2_with fail
  refine wp_region_noPanic ?_
  go_region_with ((go_at_call 37; refine ((unhide CNT) _).mono ?_; rintro e w' ⟨rfl, rfl⟩))
  all_goals
    refine NoPanic.normal ?_
    have HP4 : Hid (PB g s k (line + nl + c) (w3.setCell ⟨g, 2, none⟩ (.int .i64 ((line : Int) + (nl : Int) + (c : Int)))).drew) := hide ((unhide HP3).line (line + nl + c))
    have HK4 : Hid (Kept w.heap.size (fun j => j = g) w (w3.setCell ⟨g, 2, none⟩ (.int .i64 ((line : Int) + (nl : Int) + (c : Int)))).drew) := hide ((unhide HK3).setCell ⟨g, 2, none⟩ (Or.inl rfl) _)
    have HB4 : Hid (IsB w.heap.size w.heap.size (k + j) (w3.setCell ⟨g, 2, none⟩ (.int .i64 ((line : Int) + (nl : Int) + (c : Int)))).drew) := hide (((unhide HB3).setCell ⟨g, 2, none⟩ hg _).drewN 1)
    clear c2 f2 HP3 HK3 HB3 CNT
    try rw [hwrap]
    clear hwrap
    generalize (w3.setCell ⟨g, 2, none⟩ (.int .i64 ((line : Int) + (nl : Int) + (c : Int)))).drew = w4 at HP4 HK4 HB4 ⊢
    have c1 := (unhide HP4).c1
    have f1 := (unhide HP4).fz 1
    go_wp2_with fail
    have HP5 : Hid (PB g s (k + (j + 1)) (line + nl + c) (w4.setCell ⟨g, 1, none⟩ (.int .i64 ((k : Int) + ((j : Int) + 1))))) := hide ((unhide HP4).pos (k + (j + 1)))
    have HK5 : Hid (Kept w.heap.size (fun j => j = g) w (w4.setCell ⟨g, 1, none⟩ (.int .i64 ((k : Int) + ((j : Int) + 1))))) := hide ((unhide HK4).setCell ⟨g, 1, none⟩ (Or.inl rfl) _)
    have HB5 : Hid (IsB w.heap.size w.heap.size (k + j) (w4.setCell ⟨g, 1, none⟩ (.int .i64 ((k : Int) + ((j : Int) + 1))))) := hide ((unhide HB4).setCell ⟨g, 1, none⟩ hg _)
    clear c1 f1 HP4 HK4 HB4
    generalize w4.setCell ⟨g, 1, none⟩ (.int .i64 ((k : Int) + ((j : Int) + 1))) = w5 at HP5 HK5 HB5 ⊢
    obtain ⟨P, hP1, hP2⟩ : ∃ P, P ≤ k + (j + 1) ∧ k + (j + 1) ≤ P := ⟨_, Nat.le_refl _, Nat.le_refl _⟩
    rw [show k + (j + 1) = P by omega] at HP5
    have c0 := (unhide HP5).c0
    have c1 := (unhide HP5).c1
    have hP0 : (0 : Int) ≤ (P : Int) := by omega
    have hm1 : decide ((P : Int) < (s.size : Int)) = false := decide_eq_false (by omega)
    have hPle : P ≤ s.size := by omega
    have hPn : ¬ P < s.size := by omega
    have hPi : (P : Int) ≤ (s.size : Int) := by omega
    clear hm
    go_quiet (fail)
    have HP6 := hide ((unhide HP5).drewN nq)
    have HK6 := hide ((unhide HK5).drewN nq)
    have HB6 := hide ((unhide HB5).drewN nq)
    clear c0 c1 HP5 HK5 HB5
    generalize w5.drewN nq = w6 at HP6 HK6 HB6 ⊢
    have hsz : w.heap.size ≤ w6.heap.size := (unhide HK6).size
    have c1 := (unhide HP6).c1
    have HB8 : Hid (IsB w.heap.size w.heap.size (k + j) w6.drew) := hide ((unhide HB6).drewN 1)
    have hlg := hg
    go_wp2_with fail
    go_region_held3 (fun w' => w'.cell? ⟨g, 1, none⟩ = some (.int .i64 (P : Int))) (first | go_keep | (rw [hbel.cell (p := ⟨g, 1, none⟩) hg]; assumption) | (simp only [World.cell?_drewN]; rw [hbel.cell (p := ⟨g, 1, none⟩) hg]; assumption)) ((go_at_call 39; refine (bstr_any w.heap.size w.heap.size (k + j) w6.drew (unhide HB8) hsz).mono ?_; rintro e w7 ⟨⟨t, rfl⟩, hbel⟩))
    have HP7 : Hid (PB g s P (line + nl + c) w7) := hide ((hbel.block g hg).trans (unhide HP6))
    have HK7 := hide (((unhide HK6).drewN 1).trans (Kept.ofBelow (fun j => j = g) hbel) (Nat.le_refl _) (fun _ _ e => e))
    have hsz7 : w.heap.size ≤ w7.heap.size := (unhide HK7).size
    go_wp2
    exact (unhide HQR) _ _ rfl ⟨(unhide HK7).alloc hsz7 _, Or.inl ⟨_, P, nl + c, by rw [show P = k + j + 1 by omega]; exact (unhide HQQ).trans (unhide HQ), rfl, by rw [← Nat.add_assoc]; exact (unhide HP7).alloc _⟩⟩
end Go.Proofs.Qxb6002438aDoor
