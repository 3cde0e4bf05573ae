/-
  strings.ContainsRune at a byte.
-/
import Derived.Test.Qxb6002438aDoorCl
import Derived.ScopeJumps
import Derived.LoopN
namespace Go.Proofs.Qxb6002438aDoor
open Go.RowKit

set_option maxRecDepth 100000 in
theorem delim_idx : ∀ c : Fin 128, decide (0 ≤ Lib.indexByte [32, 9, 10, 123, 125, 124, 39] c.val.toUInt8) = true ↔ (c.val = 32 ∨ c.val = 9 ∨ c.val = 10 ∨ c.val = 123 ∨ c.val = 125 ∨ c.val = 124 ∨ c.val = 39) := by decide
theorem enc_two (c : Nat) (h1 : 128 ≤ c) (h2 : c < 256) : ∃ a b : UInt8, Utf8.encode (c : Int) = ⟨#[a, b]⟩ ∧ 128 ≤ b.toNat := by
  have hv : Utf8.valid (c : Int) = true := by
    unfold Utf8.valid
    simp
    omega
  refine ⟨UInt8.ofNat (0xC0 + c / 64), UInt8.ofNat (0x80 + c % 64), ?_, ?_⟩
  · unfold Utf8.encode
    simp only [hv, if_true, Int.toNat_natCast]
    rw [if_neg (by omega), if_pos (by omega)]
  · rw [UInt8.toNat_ofNat']
    omega
theorem idx_high (b : UInt8) (h : 128 ≤ b.toNat) : Lib.indexByte [10, 123, 125, 124, 39] b = -1 := by
  have key : ∀ x : UInt8, x.toNat < 128 → (x == b) = false := fun x hx => beq_eq_false_iff_ne.2 fun e => by subst e; omega
  simp [Lib.indexByte, key 10 (by decide), key 123 (by decide), key 125 (by decide), key 124 (by decide), key 39 (by decide)]
theorem wrap_two : IntKind.i64.wrap 2 = 2 := by decide
theorem wrap_one : IntKind.i64.wrap 1 = 1 := by decide
theorem at_one : (⟨#[32, 9, 10, 123, 125, 124, 39]⟩ : ByteArray)[1]'(by decide) = 9 := rfl
theorem cut_two : (⟨#[32, 9, 10, 123, 125, 124, 39]⟩ : ByteArray).extract 2 7 = ⟨#[10, 123, 125, 124, 39]⟩ := by decide
attribute [local go_sem] wrap_two wrap_one at_one cut_two

set_option maxRecDepth 100000 in
set_option maxHeartbeats 1000000 in
theorem validRune_low (c : Nat) (h2 : c < 256) (w : World) : Calls Tryd.prog 47 #[.int .i32 (c : Int)] w fun e w' => e = .returned (.bool true) ∧ w' = w := by
  have e1 : (0 : Int) ≤ (c : Int) := by omega
  have e2 : (c : Int) < 55296 := by omega
  go_enter Tryd.func47, Tryd.ntmps47
  go_wp2
  go_ret
  exact ⟨rfl, rfl⟩

set_option maxRecDepth 1000000 in
set_option maxHeartbeats 4000000 in
theorem indexRune_high (c : Nat) (h1 : 128 ≤ c) (h2 : c < 256) (w : World) : Calls Tryd.prog 40 #[.string ⟨#[32, 9, 10, 123, 125, 124, 39]⟩, .int .i32 (c : Int)] w fun e w' => e = .returned (.int .i64 (-1)) ∧ ∃ q, w' = w.drewN q := by
  obtain ⟨ea, eb, henc, heb⟩ := enc_two c h1 h2
  have HI := hide (idx_high eb heb)
  have e1 : (0 : Int) ≤ (c : Int) := by omega
  have e2 : ¬ (c : Int) < 128 := by omega
  have e3 : ((c : Int) == 65533) = false := beq_eq_false_iff_ne.2 (by omega)
  have q1 : ((9 : Int) != (eb.toNat : Int)) = true := by simp; omega
  have hx2 : (⟨#[ea, eb]⟩ : ByteArray)[1]'(by simp [ByteArray.size]) = eb := rfl
  have IBX : Hid (∀ w, Calls Tryd.prog 29 #[.string ⟨#[10, 123, 125, 124, 39]⟩, .int .u8 (eb.toNat : Int)] w fun e w' => e = .returned (.int .i64 (-1)) ∧ w' = w) := fun w => by
    have h := ib_any ⟨#[10, 123, 125, 124, 39]⟩ eb w
    rw [show Lib.indexByte (⟨#[10, 123, 125, 124, 39]⟩ : ByteArray).data.toList eb = -1 from unhide HI] at h
    exact h
  go_enter Tryd.func40, Tryd.ntmps40
  go_wp2_with fail
  refine (validRune_low c h2 w).mono ?_
  rintro e w1 ⟨rfl, rfl⟩
  go_wp2_with fail
  refine wp_scope_jumps 1 (fun _ _ => False) (fun _ _ => 0) rfl ?_ (fun _ _ h => h.elim)
  go_wp2_with fail
  refine wp_loop_rounds 2 ?_
  rw [rounds_succ]
  go_wp2_with fail
  refine wp_scope_jumps 0 (fun _ _ => False) (fun _ _ => 0) rfl ?_ (fun _ _ h => h.elim)
  go_wp2_with fail
  go_quiet (fail)
  have HW : Hid (∃ q, w1.drewN nq = w1.drewN q) := ⟨nq, rfl⟩
  generalize w1.drewN nq = wd at HW ⊢
  go_wp2_with fail
  go_quiet ((go_at_call 29; exact Calls.quiet_of_same ((unhide IBX) _)))
  go_wp2
  obtain ⟨q, hq⟩ := unhide HW
  show bodyPost Tryd.prog Tryd.f40 (fun e w' => e = .returned (.int .i64 (-1)) ∧ ∃ q, w' = w1.drewN q) .ret _ _
  exact ⟨rfl, .int .i64 (-1), by simp [results, Tryd.results40, go_sem], rfl, _, by rw [hq, World.drewN_drewN]⟩
theorem contains_any : CRc := by
  intro c hc w
  by_cases h : c < 128
  · refine (Any.strings_ContainsRune_ascii Tryd.lays151 ⟨#[32, 9, 10, 123, 125, 124, 39]⟩ (c : Int) w (by omega) (by omega)).mono fun e w' ⟨he, hw⟩ => ⟨⟨_, he, ?_⟩, 0, hw⟩
    rw [Int.toNat_natCast]
    exact delim_idx ⟨c, h⟩
  · have hn : ¬ isDelim c := by unfold isDelim; omega
    have HN := hide hn
    clear hn
    go_enter Tryd.func31, Tryd.ntmps31
    go_wp2_with fail
    refine (indexRune_high c (by omega) hc w).mono ?_
    rintro e w1 ⟨rfl, q, hq⟩
    have HQ := hide hq
    clear hq
    go_wp2
    go_ret
    exact ⟨⟨false, rfl, ⟨fun h => by (cases h), fun h => absurd h (unhide HN)⟩⟩, q, unhide HQ⟩
end Go.Proofs.Qxb6002438aDoor
