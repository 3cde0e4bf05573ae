/-
  fmt.Errorf at the one format of this road: an error that is not nil comes back. (What fmt's text is does not matter here.)
-/
import Derived.Test.Qxb6604493aFmtRows
import Derived.Stop.CallBack
import Derived.Stop.IfaceNil
import GoSem.ClaimData
import Derived.WalkKit
import Derived.WalkSpells
namespace Go.Proofs.Qxb6604493aFmt
open Go.RowKit Go.Extern.Stop Go.Stop Go.Extern

theorem Tryf.call29 (args : Array Value) (w : World) : (callFunc 29 args).run Tryf.prog w = ((FmtStop.errorf #[9, 79] #[46] args).run Tryf.prog w).andThen fun v w' => .ok (.value v) w' :=
  run_callFunc_extern Tryf.func29 (by kernel_rfl) (by kernel_rfl) (by kernel_rfl) (by kernel_rfl) args w
theorem Tryf.fmtGuard (name : String) (w : World) : (FmtStop.guard name).run Tryf.prog w = .ok () w := by kernel_rfl
theorem Tryf.fmt0r (w : World) : (FmtDoors.printed ⟨#[116, 97, 98, 108, 101, 32, 37, 115, 32, 104, 97, 115, 32, 110, 111, 32, 37, 115, 32, 37, 115]⟩ 3).run Tryf.prog w = .ok [(0, 115, false), (1, 115, false), (2, 115, false)] w := by kernel_rfl
def Tryf.shape9 : List UInt8 := [12, 6, 0, 0, 0, 0, 0, 0, 0, 115, 116, 114, 105, 110, 103]
theorem Tryf.op9_115w (name : String) (x : ByteArray) (w : World) : (FmtStop.operand name true 115 false (.iface 9 (.string x))).run Tryf.prog w = .ok (Tryf.shape9, FmtStop.pack x.data.toList) w := by kernel_rfl
theorem Tryf.ptrErr (w : World) : (FmtStop.ptrTo "errors.errorString").run Tryf.prog w = .ok 98 w := by kernel_rfl
theorem Tryf.elemErr (w : World) : (elemOf 98).run Tryf.prog w = .ok 100 w := by kernel_rfl
theorem Tryf.isErr (w : World) : (FmtDoors.textMethod 98 "Error").run Tryf.prog w = .ok true w := by kernel_rfl
attribute [local go_sem] Tryf.call29 Tryf.fmtGuard Tryf.fmt0r Tryf.op9_115w Tryf.ptrErr Tryf.elemErr Tryf.isErr

/-- An error that is not nil; nothing old has turned. -/
def ErrPost (w : World) (e : Ending) (w' : World) : Prop := (∃ a : Addr, e = .returned (.iface 98 (.pointer (some a)))) ∧ Below w.heap.size w w'

set_option maxRecDepth 100000 in
set_option maxHeartbeats 1000000 in
theorem missing_any (F : Interp) (eb tb : Nat) (tn what q : ByteArray) (w : World) (hF : F.answers w.tape)
    (he : w.cell? ⟨eb, 0, none⟩ = some (.pointer (some ⟨tb, 0, none⟩))) (ht : w.cell? ⟨tb, 0, none⟩ = some (.string tn)) :
    Calls Tryf.prog 18 #[.pointer (some ⟨eb, 0, none⟩), .string what, .string q] w fun e w' => ErrPost w e w' := by
  have hF' := answers_open hF
  go_enter Tryf.func18, Tryf.ntmps18
  go_wp2
  go_ret
  exact ⟨⟨_, rfl⟩, (((Below.refl _ _).alloc (Nat.le_refl _) _).alloc (by simp) _).drew⟩
end Go.Proofs.Qxb6604493aFmt
