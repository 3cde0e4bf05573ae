/-
  '==' and '!=' between pointers.
-/
import Derived.Test.Qxb6604493aFmtRows
import Derived.LaidEqlPtr
namespace Go.Proofs.Qxb6604493aFmt
section
variable {P : Program} (w : World)

theorem run_neq_ptr_same {tp te : TypeId} {j : TypeInfo} (a : Addr) (hp : P.underlying tp = some (.pointer te)) (hte : P.info? te = some j) :
    (binOp .neq tp (.pointer (some a)) (.pointer (some a))).run P w = .ok (.bool false) w := by
  have h : ∀ d : Nat, (Op.equalIn (d + 1) tp (.pointer (some a)) (.pointer (some a))).run P w = .ok true w := fun d => by
    simp [Op.equalIn, run_underlying hp, sizeOf, typeInfo, hte, run_sameAddr_same]
  simp only [binOp]
  simp [Op.equal, Op.maxDepth, h 9999]

theorem run_neq_ptr_other {tp te : TypeId} {j : TypeInfo} {a b : Addr} {ca cb : Array Value} {ta tb : TypeId} (hp : P.underlying tp = some (.pointer te)) (hte : P.info? te = some j) (hsz : j.size ≠ 0)
    (hne : a ≠ b) (ha : w.heap[a.block]? = some (.cells ca ta (0, 0))) (hb : w.heap[b.block]? = some (.cells cb tb (0, 0))) :
    (binOp .neq tp (.pointer (some a)) (.pointer (some b))).run P w = .ok (.bool true) w := by
  have h : ∀ d : Nat, (Op.equalIn (d + 1) tp (.pointer (some a)) (.pointer (some b))).run P w = .ok false w := fun d => by
    simp [Op.equalIn, run_underlying hp, sizeOf, typeInfo, hte, hsz, run_sameAddr_other w hne ha hb]
  simp only [binOp]
  simp [Op.equal, Op.maxDepth, h 9999]
end

theorem Tryf.info54 : ∃ j, Tryf.prog.info? 54 = some j ∧ j.size ≠ 0 := by
  have h : (Tryf.prog.info? 54).map (fun i => decide (i.size ≠ 0)) = some true := by kernel_rfl
  cases hj : Tryf.prog.info? 54 with
  | none => rw [hj] at h; cases h
  | some j =>
    rw [hj] at h
    simp at h
    exact ⟨j, rfl, h⟩
theorem Tryf.info42 : ∃ j, Tryf.prog.info? 42 = some j ∧ j.size ≠ 0 := by
  have h : (Tryf.prog.info? 42).map (fun i => decide (i.size ≠ 0)) = some true := by kernel_rfl
  cases hj : Tryf.prog.info? 42 with
  | none => rw [hj] at h; cases h
  | some j =>
    rw [hj] at h
    simp at h
    exact ⟨j, rfl, h⟩

theorem neq49_same (a : Addr) (w : World) : (binOp .neq 49 (.pointer (some a)) (.pointer (some a))).run Tryf.prog w = .ok (.bool false) w := by
  obtain ⟨j, hj, _⟩ := Tryf.info54
  exact run_neq_ptr_same w a Tryf.underlying49 hj
theorem neq27_same (a : Addr) (w : World) : (binOp .neq 27 (.pointer (some a)) (.pointer (some a))).run Tryf.prog w = .ok (.bool false) w := by
  obtain ⟨j, hj, _⟩ := Tryf.info42
  exact run_neq_ptr_same w a Tryf.underlying27 hj
theorem eql27_same (a : Addr) (w : World) : (binOp .eql 27 (.pointer (some a)) (.pointer (some a))).run Tryf.prog w = .ok (.bool true) w := by
  obtain ⟨j, hj, _⟩ := Tryf.info42
  exact run_eql_ptr_same w a Tryf.underlying27 hj
theorem neq49_other {a b : Addr} {ca cb : Array Value} {ta tb : TypeId} (w : World) (hne : a ≠ b) (ha : w.heap[a.block]? = some (.cells ca ta (0, 0))) (hb : w.heap[b.block]? = some (.cells cb tb (0, 0))) :
    (binOp .neq 49 (.pointer (some a)) (.pointer (some b))).run Tryf.prog w = .ok (.bool true) w := by
  obtain ⟨j, hj, hz⟩ := Tryf.info54
  exact run_neq_ptr_other w Tryf.underlying49 hj hz hne ha hb
end Go.Proofs.Qxb6604493aFmt
