/-
  parseFieldLine: the field, where the split at the first colon passes; else an error and the empty field.
-/
import Derived.Test.Qxb6604744aFmtCheck
import Derived.Handy
namespace Go.Proofs.Qxb6604744aFmt
open Go.RowKit Go.Lib Go.Extern.Stop Go.Stop Go.Extern
attribute [local go_sem] Tryf.call20 Tryf.fmtGuard Tryf.fmtA Tryf.fmtB Tryf.fmtC Tryf.fmtD Tryf.op9_115 Tryf.op9_113 Tryf.op5_113 Tryf.ptrErr Tryf.elemErr Tryf.isErr

def ParsePost (l : List UInt8) (w : World) (e : Ending) (w' : World) : Prop :=
  ((∃ k : Nat, indexByte l 58 = (k : Int) ∧ Chk (l.take k) (trimS (l.drop (k + 1)) cuts) ∧ e = .returned (.tuple #[.agg #[.string (str (l.take k)), .string (str (trimS (l.drop (k + 1)) cuts))], .nilIface])) ∨
    ((∀ k : Nat, indexByte l 58 = (k : Int) → ¬ Chk (l.take k) (trimS (l.drop (k + 1)) cuts)) ∧ ∃ a : Addr, e = .returned (.tuple #[.agg #[.string ⟨#[]⟩, .string ⟨#[]⟩], .iface 47 (.pointer (some a))]))) ∧ Below w.heap.size w w'

theorem below_drewN {B : Nat} {w w' : World} (h : Below B w w') (z : Nat) : Below B w (w'.drewN z) := ⟨h.os, h.tape, h.output, h.size, h.block⟩

theorem two_cells {w : World} {b : Nat} {x y : Value} (h0 : w.cell? ⟨b, 0, none⟩ = some x) (h1 : w.cell? ⟨b, 1, none⟩ = some y) (x' y' : Value) :
    (w.setCell ⟨b, 0, none⟩ x').cell? ⟨b, 0, none⟩ = some x' ∧ ((w.setCell ⟨b, 0, none⟩ x').setCell ⟨b, 1, none⟩ y').cell? ⟨b, 1, none⟩ = some y' := by
  have k1 : (w.setCell ⟨b, 0, none⟩ x').cell? ⟨b, 1, none⟩ = some y := (World.cell?_setCell_other _ _ _ _ (by simp)).trans h1
  exact ⟨World.cell?_setCell_same _ _ _ h0, World.cell?_setCell_same _ _ _ k1⟩

theorem trim_le (l : List UInt8) : (trimS l cuts).length ≤ l.length := by
  obtain ⟨lo, hi, h0, h1, e, _⟩ := trim_idem l
  rw [e]
  simp
  omega

set_option maxRecDepth 100000 in
set_option maxHeartbeats 4000000 in
theorem parse_any (F : Interp) (s : ByteArray) (w : World) (hF : F.answers w.tape) (hs : s.size ≤ 9223372036854775807) :
    Calls Tryf.prog 12 #[.string s] w fun e w' => ParsePost s.data.toList w e w' := by
  have HF := hide hF
  have hF' := answers_open hF
  clear hF
  go_enter Tryf.func12, Tryf.ntmps12
  go_wp2_with fail
  refine (cut_any s _ hs).mono ?_
  rintro e w1 ⟨(⟨k, hk, rfl⟩ | ⟨hx, a, b, rfl⟩), ⟨z, rfl⟩⟩
  · have HK := hide hk
    have hs2 : (str (s.data.toList.drop (k + 1))).size ≤ 9223372036854775807 := by rw [str_size, List.length_drop, ← size_eq]; omega
    have hs1 : (str (s.data.toList.take k)).size ≤ 9223372036854775807 := by rw [str_size, List.length_take, ← size_eq]; omega
    clear hk
    go_wp2_with fail
    refine (trim_any _ _ hs2).mono ?_
    rintro e w2 ⟨rfl, hb⟩
    rw [str_toList]
    have hs3 : (str (trimS (s.data.toList.drop (k + 1)) cuts)).size ≤ 9223372036854775807 := by have := trim_le (s.data.toList.drop (k + 1)); rw [str_size] at hs2 ⊢; omega
    have hsz : w.heap.size + 1 ≤ w2.heap.size := by have := hb.size; simpa using this
    have p0 : w2.cell? ⟨w.heap.size, 0, none⟩ = some (.string ⟨#[]⟩) := (hb.cell (by simp)).trans (by simp)
    have p1 : w2.cell? ⟨w.heap.size, 1, none⟩ = some (.string ⟨#[]⟩) := (hb.cell (by simp)).trans (by simp)
    have q0 : w2.frozen? ⟨w.heap.size, 0, none⟩ = false := (hb.frozen (by simp)).trans (by simp)
    have q1 : w2.frozen? ⟨w.heap.size, 1, none⟩ = false := (hb.frozen (by simp)).trans (by simp)
    have HB2 : Hid (Below w.heap.size w w2) := ((Below.refl _ _).alloc (Nat.le_refl _) _).trans (Below.mono ⟨hb.os, hb.tape, hb.output, hb.size, hb.block⟩ (by simp))
    have HF2 : Hid (F.answers w2.tape) := by show F.answers w2.tape; rw [(unhide HB2).tape]; exact unhide HF
    clear hb hs2 hF'
    go_wp2_with fail
    have HB3 : Hid (Below w.heap.size w (w2.alloc (.cells #[.string (str (s.data.toList.take k)), .string (str (trimS (s.data.toList.drop (k + 1)) cuts))] 24))) := (unhide HB2).alloc (unhide HB2).size _
    refine (check_any F _ _ _ ?_ hs1 hs3).mono ?_
    · exact unhide HF2
    intro e w3 hch
    obtain ⟨hch, hb⟩ := hch
    rw [str_toList, str_toList] at hch
    have r0 : w3.cell? ⟨w.heap.size, 0, none⟩ = some (.string ⟨#[]⟩) := (hb.cell (by simp; omega)).trans ((World.cell?_alloc_lt _ _ _ (by simp; omega)).trans p0)
    have r1 : w3.cell? ⟨w.heap.size, 1, none⟩ = some (.string ⟨#[]⟩) := (hb.cell (by simp; omega)).trans ((World.cell?_alloc_lt _ _ _ (by simp; omega)).trans p1)
    have g0 : w3.frozen? ⟨w.heap.size, 0, none⟩ = false := (hb.frozen (by simp; omega)).trans ((World.frozen?_alloc_old _ _ _ (by simp; omega)).trans q0)
    have g1 : w3.frozen? ⟨w.heap.size, 1, none⟩ = false := (hb.frozen (by simp; omega)).trans ((World.frozen?_alloc_old _ _ _ (by simp; omega)).trans q1)
    have t0 : w3.cell? ⟨w2.heap.size, 0, none⟩ = some (.string (str (s.data.toList.take k))) := (hb.cell (by simp)).trans (by simp)
    have t1 : w3.cell? ⟨w2.heap.size, 1, none⟩ = some (.string (str (trimS (s.data.toList.drop (k + 1)) cuts))) := (hb.cell (by simp)).trans (by simp)
    have HB4 : Hid (Below w.heap.size w w3) := (unhide HB3).trans (hb.mono (by simp; omega))
    clear hb p0 p1 q0 q1 HB2 HB3 HF2 hs1 hs3
    rcases hch with ⟨hc, rfl⟩ | ⟨hc, a, rfl⟩
    · have HC := hide hc
      clear hc
      go_wp2
      obtain ⟨k0, k1⟩ := two_cells r0 r1 (.string (str (s.data.toList.take k))) (.string (str (trimS (s.data.toList.drop (k + 1)) cuts)))
      refine bodyPost_ret (v := .tuple #[.agg #[.string (str (s.data.toList.take k)), .string (str (trimS (s.data.toList.drop (k + 1)) cuts))], .nilIface]) (by simp [results, Tryf.results12, go_sem, k0, k1]) rfl ?_
      exact ⟨Or.inl ⟨k, unhide HK, unhide HC, rfl⟩, ((unhide HB4).setCell (Nat.le_refl _) _).setCell (Nat.le_refl _) _⟩
    · have HC := hide hc
      clear hc
      go_wp2
      obtain ⟨k0, k1⟩ := two_cells r0 r1 (.string ⟨#[]⟩) (.string ⟨#[]⟩)
      refine bodyPost_ret (v := .tuple #[.agg #[.string ⟨#[]⟩, .string ⟨#[]⟩], .iface 47 (.pointer (some a))]) (by simp [results, Tryf.results12, go_sem, k0, k1]) rfl ?_
      refine ⟨Or.inr ⟨fun k2 hk2 => ?_, _, rfl⟩, ((unhide HB4).setCell (Nat.le_refl _) _).setCell (Nat.le_refl _) _⟩
      have : k = k2 := by have := (unhide HK).symm.trans hk2; omega
      subst this
      exact unhide HC
  · have HX := hide hx
    clear hx
    go_wp2
    go_returns
    refine ⟨Or.inr ⟨fun k hk => ?_, _, rfl⟩, ?_⟩
    · rw [unhide HX] at hk
      omega
    · go_grown
      exact below_drewN ((Below.refl _ _).alloc (Nat.le_refl _) _) z

set_option maxRecDepth 100000 in
set_option maxHeartbeats 4000000 in
theorem zzparse_any (F : Interp) (s : ByteArray) (w : World) (hF : F.answers w.tape) (hs : s.size ≤ 9223372036854775807) :
    Calls Tryf.prog 6 #[.string s] w fun e w' => ParsePost s.data.toList w e w' := by
  have HF := hide hF
  clear hF
  go_enter Tryf.func6, Tryf.ntmps6
  go_wp2_with fail
  refine (parse_any F s _ ?_ hs).mono ?_
  · exact unhide HF
  intro e w3 hp
  obtain ⟨hp, hb⟩ := hp
  have r0 : w3.cell? ⟨w.heap.size, 0, none⟩ = some (.string ⟨#[]⟩) := (hb.cell (by simp)).trans (by simp)
  have r1 : w3.cell? ⟨w.heap.size, 1, none⟩ = some (.string ⟨#[]⟩) := (hb.cell (by simp)).trans (by simp)
  have g0 : w3.frozen? ⟨w.heap.size, 0, none⟩ = false := (hb.frozen (by simp)).trans (by simp)
  have g1 : w3.frozen? ⟨w.heap.size, 1, none⟩ = false := (hb.frozen (by simp)).trans (by simp)
  have HB4 : Hid (Below w.heap.size w w3) := ((Below.refl _ _).alloc (Nat.le_refl _) _).trans (hb.mono (by simp))
  clear hb
  rcases hp with ⟨k, hk, hc, rfl⟩ | ⟨hno, a, rfl⟩
  · have HK := hide hk
    have HC := hide hc
    clear hk hc
    go_wp2
    obtain ⟨k0, k1⟩ := two_cells r0 r1 (.string (str (s.data.toList.take k))) (.string (str (trimS (s.data.toList.drop (k + 1)) cuts)))
    refine bodyPost_ret (v := .tuple #[.agg #[.string (str (s.data.toList.take k)), .string (str (trimS (s.data.toList.drop (k + 1)) cuts))], .nilIface]) (by simp [results, Tryf.results6, go_sem, k0, k1]) rfl ?_
    exact ⟨Or.inl ⟨k, unhide HK, unhide HC, rfl⟩, ((unhide HB4).setCell (Nat.le_refl _) _).setCell (Nat.le_refl _) _⟩
  · have HN := hide hno
    clear hno
    go_wp2
    obtain ⟨k0, k1⟩ := two_cells r0 r1 (.string ⟨#[]⟩) (.string ⟨#[]⟩)
    refine bodyPost_ret (v := .tuple #[.agg #[.string ⟨#[]⟩, .string ⟨#[]⟩], .iface 47 (.pointer (some a))]) (by simp [results, Tryf.results6, go_sem, k0, k1]) rfl ?_
    exact ⟨Or.inr ⟨unhide HN, _, rfl⟩, ((unhide HB4).setCell (Nat.le_refl _) _).setCell (Nat.le_refl _) _⟩
end Go.Proofs.Qxb6604744aFmt
