/-
  parser.quoted: cases of a round.
-/
import Derived.Test.Qxb6002438aDoorQz
namespace Go.Proofs.Qxb6002438aDoor
open Go.RowKit

set_option linter.unusedVariables false in
set_option maxRecDepth 100000 in
set_option maxHeartbeats 4000000 in
theorem quo_none (s : ByteArray) (hs : s.size ≤ 1048576) (g i line k nl : Nat) (w wr : World) (u : Nat → Value) (Q : Exit → Act → World → Prop) (HQR : Hid (QQRet s g i line w Q))
    (hline : line ≤ i + 1) (hik : i < k) (hk : k ≤ s.size) (hnl : nl ≤ k) (HS : Hid (QSt s g i line w k nl wr)) (HX : Hid (Lib.indexByte (s.extract k s.size).data.toList 39 = -1)) (HN : Hid (quo s k nl = none)) :
    Code.wp Tryd.prog ((Tryd.f30.body.bind firstLoop).getD .skip) (Exit.then (QK s g i line w wr) Q) ⟨#[.pointer (some ⟨g, 0, none⟩), u 1, u 2, u 3, .int .i64 (line : Int), .int .i64 (i : Int), .pointer (some ⟨w.heap.size, 0, none⟩), u 7, u 8, u 9, u 10, u 11, u 12, u 13, u 14, u 15, u 16, u 17, u 18, u 19, u 20, u 21, u 22, u 23, u 24, u 25, u 26, u 27, u 28, u 29, u 30, u 31, u 32, u 33, u 34, u 35, u 36, u 37, u 38, u 39, u 40, u 41, u 42, u 43, u 44, u 45, u 46, u 47, u 48, u 49, u 50, u 51, u 52, u 53, u 54, u 55, u 56, u 57, u 58, u 59, u 60, u 61, u 62, u 63, u 64, u 65, u 66, u 67, u 68, u 69, u 70, u 71, u 72, u 73, u 74, u 75, u 76, u 77, u 78, u 79, u 80, u 81, u 82, u 83, u 84, u 85, u 86, u 87, u 88, u 89, u 90, u 91, u 92, u 93, u 94, u 95, u 96, u 97, u 98, u 99, u 100, u 101, u 102, u 103, u 104, u 105, u 106, u 107, u 108, u 109, u 110, u 111, u 112, u 113], []⟩ wr := by
  conv => arg 2; whnf
  have HL := hide (left_eq (unhide HS).p)
  have hk0 : (0 : Int) ≤ (k : Int) := by omega
  have hk1 : (k : Int) ≤ (s.size : Int) := by omega
  have c0 := (unhide HS).p.c0
  have c1 := (unhide HS).p.c1
  have ib : ∀ w, Calls Tryd.prog 29 #[.string (s.extract k s.size), .int .u8 39] w fun e w' => e = .returned (.int .i64 (-1)) ∧ w' = w := fun w => by rw [← unhide HX]; exact ib_any (s.extract k s.size) 39 w
  have IBX := hide ib
  clear ib
  go_wp2_with fail
  go_quiet ((go_at_call 29; exact Calls.quiet_of_same ((unhide IBX) _)))
  have HS1 := hide ((unhide HS).drewN nq)
  generalize wr.drewN nq = wr1 at HS1 ⊢
  clear c0 c1
  go_wp2
  exact (unhide HQR) _ _ rfl ⟨(unhide HS1).kept.alloc (unhide HS1).kept.size _, Or.inr ⟨(unhide HS).q.trans (unhide HN), _, k, line + nl, rfl, ⟨_, _, (unhide HS1).kept.size, rfl, heap_alloc_new _ _⟩, (unhide HS1).p.alloc _, by omega, hk⟩⟩
end Go.Proofs.Qxb6002438aDoor
