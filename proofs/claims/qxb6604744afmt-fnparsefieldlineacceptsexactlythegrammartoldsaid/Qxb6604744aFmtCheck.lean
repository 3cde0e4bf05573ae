/-
  Field.Check: nil exactly where the field may stand on a line.
-/
import Derived.Test.Qxb6604744aFmtCut
import Derived.Stop.CallBack
import Derived.Stop.IfaceNil
import GoSem.ClaimData
namespace Go.Proofs.Qxb6604744aFmt
open Go.RowKit Go.Lib Go.Extern.Stop Go.Stop Go.Extern

theorem Tryf.call20 (args : Array Value) (w : World) : (callFunc 20 args).run Tryf.prog w = ((FmtStop.errorf #[9, 37] #[26] args).run Tryf.prog w).andThen fun v w' => .ok (.value v) w' :=
  run_callFunc_extern Tryf.func20 (by kernel_rfl) (by kernel_rfl) (by kernel_rfl) (by kernel_rfl) args w
theorem Tryf.fmtGuard (name : String) (w : World) : (FmtStop.guard name).run Tryf.prog w = .ok () w := by kernel_rfl
theorem Tryf.fmtA (w : World) : (FmtDoors.printed ⟨#[110, 111, 116, 32, 97, 32, 102, 105, 101, 108, 100, 32, 108, 105, 110, 101, 58, 32, 37, 113]⟩ 1).run Tryf.prog w = .ok [(0, 113, false)] w := by kernel_rfl
theorem Tryf.fmtB (w : World) : (FmtDoors.printed ⟨#[102, 105, 101, 108, 100, 32, 110, 97, 109, 101, 32, 37, 113, 32, 105, 115, 32, 110, 111, 116, 32, 97, 32, 116, 111, 107, 101, 110]⟩ 1).run Tryf.prog w = .ok [(0, 113, false)] w := by kernel_rfl
theorem Tryf.fmtC (w : World) : (FmtDoors.printed ⟨#[102, 105, 101, 108, 100, 32, 37, 115, 32, 104, 97, 115, 32, 119, 104, 105, 116, 101, 115, 112, 97, 99, 101, 32, 97, 114, 111, 117, 110, 100, 32, 105, 116, 115, 32, 118, 97, 108, 117, 101]⟩ 1).run Tryf.prog w = .ok [(0, 115, false)] w := by kernel_rfl
theorem Tryf.fmtD (w : World) : (FmtDoors.printed ⟨#[102, 105, 101, 108, 100, 32, 37, 115, 32, 104, 111, 108, 100, 115, 32, 116, 104, 101, 32, 99, 111, 110, 116, 114, 111, 108, 32, 99, 104, 97, 114, 97, 99, 116, 101, 114, 32, 37, 113]⟩ 2).run Tryf.prog w = .ok [(0, 115, false), (1, 113, false)] w := by kernel_rfl
def Tryf.shape9 : List UInt8 := [12, 6, 0, 0, 0, 0, 0, 0, 0, 115, 116, 114, 105, 110, 103]
def Tryf.shape5 : List UInt8 := [6, 5, 0, 0, 0, 0, 0, 0, 0, 117, 105, 110, 116, 56]
theorem Tryf.op9_115 (name : String) (x : ByteArray) (w : World) : (FmtStop.operand name true 115 false (.iface 9 (.string x))).run Tryf.prog w = .ok (Tryf.shape9, FmtStop.pack x.data.toList) w := by kernel_rfl
theorem Tryf.op9_113 (name : String) (x : ByteArray) (w : World) : (FmtStop.operand name true 113 false (.iface 9 (.string x))).run Tryf.prog w = .ok (Tryf.shape9, FmtStop.pack x.data.toList) w := by kernel_rfl
theorem Tryf.op5_113 (name : String) (x : Int) (w : World) : (FmtStop.operand name true 113 false (.iface 5 (.int .u8 x))).run Tryf.prog w = .ok (Tryf.shape5, digits 8 (x % 2 ^ 64).toNat) w := by kernel_rfl
theorem Tryf.ptrErr (w : World) : (FmtStop.ptrTo "errors.errorString").run Tryf.prog w = .ok 47 w := by kernel_rfl
theorem Tryf.elemErr (w : World) : (elemOf 47).run Tryf.prog w = .ok 49 w := by kernel_rfl
theorem Tryf.isErr (w : World) : (FmtDoors.textMethod 47 "Error").run Tryf.prog w = .ok true w := by kernel_rfl
attribute [local go_sem] Tryf.call20 Tryf.fmtGuard Tryf.fmtA Tryf.fmtB Tryf.fmtC Tryf.fmtD Tryf.op9_115 Tryf.op9_113 Tryf.op5_113 Tryf.ptrErr Tryf.elemErr Tryf.isErr

/-- nil exactly where the field passes; nothing old has turned. -/
def ChkPost (n v : List UInt8) (w : World) (e : Ending) (w' : World) : Prop :=
  ((Chk n v ∧ e = .returned .nilIface) ∨ (¬ Chk n v ∧ ∃ a : Addr, e = .returned (.iface 47 (.pointer (some a))))) ∧ Below w.heap.size w w'

theorem chk_of {n v : ByteArray} (h1 : Tok n) (h2 : trimS v.data.toList cuts = v.data.toList) (h3 : ∀ j, j < v.size → ¬ ctl (v.get! j).toNat) : Chk n.data.toList v.data.toList :=
  ⟨(tok_iff n).1 h1, h2, (allB_iff (fun x => ¬ ctl x) v).1 h3⟩
theorem chk_not1 {n v : ByteArray} (h1 : ¬ Tok n) : ¬ Chk n.data.toList v.data.toList := fun h => h1 ((tok_iff n).2 h.1)
theorem chk_not2 {n v : ByteArray} (h1 : ¬ trimS v.data.toList cuts = v.data.toList) : ¬ Chk n.data.toList v.data.toList := fun h => h1 h.2.1
theorem chk_not3 {n v : ByteArray} {k : Nat} (hk : k < v.size) (h1 : ctl (v.get! k).toNat) : ¬ Chk n.data.toList v.data.toList := fun h => (allB_iff (fun x => ¬ ctl x) v).2 h.2.2 k hk h1

/-- strings.Trim, with what a field lying in memory keeps. -/
def TrimPost (n v : ByteArray) (b : Nat) (w : World) (e : Ending) (w' : World) : Prop :=
  e = .returned (.string (str (trimS v.data.toList cuts))) ∧ w'.cell? ⟨b, 0, none⟩ = some (.string n) ∧ w'.cell? ⟨b, 1, none⟩ = some (.string v) ∧ Below w.heap.size w w'
theorem trimAt (n v : ByteArray) (b : Nat) (w : World) (hs : v.size ≤ 9223372036854775807) (h0 : w.cell? ⟨b, 0, none⟩ = some (.string n)) (h1 : w.cell? ⟨b, 1, none⟩ = some (.string v)) :
    Calls Tryf.prog 17 #[.string v, .string ⟨#[32, 9]⟩] w fun e w' => TrimPost n v b w e w' :=
  (trim_any v w hs).mono fun _ _ ⟨he, hb⟩ => ⟨he, (hb.cell (World.block_lt_of_cell? _ _ h0)).trans h0, (hb.cell (World.block_lt_of_cell? _ _ h1)).trans h1, hb⟩

theorem below_of_drew {B : Nat} {w w' : World} (h : Below B w.drew w') : Below B w w' := ⟨h.os, h.tape, h.output, h.size, h.block⟩

set_option maxRecDepth 100000 in
set_option maxHeartbeats 4000000 in
theorem check_any (F : Interp) (n v : ByteArray) (w : World) (hF : F.answers w.tape) (hn : n.size ≤ 9223372036854775807) (hv : v.size ≤ 9223372036854775807) :
    Calls Tryf.prog 9 #[.agg #[.string n, .string v]] w fun e w' => ChkPost n.data.toList v.data.toList w e w' := by
  have HF := hide hF
  have hF' := answers_open hF
  clear hF
  go_enter Tryf.func9, Tryf.ntmps9
  go_wp2_with fail
  refine (token_any n _ hn).mono ?_
  rintro e w1 ⟨⟨r, rfl, hr⟩, rfl⟩
  have HR := hide hr
  clear hr
  cases r with
  | false =>
    go_wp2
    go_ret
    refine ⟨Or.inr ⟨chk_not1 (fun h => ?_), _, rfl⟩, ?_⟩
    · have := (unhide HR).2 h
      cases this
    · exact ((((Below.refl _ _).alloc (Nat.le_refl _) _).alloc (by simp) _).alloc (by simp; omega) _).drew
  | true =>
    have c0 : (w.alloc (.cells #[.string n, .string v] 24)).cell? ⟨w.heap.size, 0, none⟩ = some (.string n) := by simp
    have c1 : (w.alloc (.cells #[.string n, .string v] 24)).cell? ⟨w.heap.size, 1, none⟩ = some (.string v) := by simp
    have HB := hide (show Below w.heap.size w (w.alloc (.cells #[.string n, .string v] 24)) from (Below.refl _ _).alloc (Nat.le_refl _) _)
    clear hF'
    go_wp2_with fail
    generalize w.alloc (.cells #[.string n, .string v] 24) = W at c0 c1 HB ⊢
    go_region_with (go_at_call 17; refine (trimAt n v w.heap.size _ hv ?_ ?_).mono ?_; exact c0; exact c1; rintro e w2 ⟨rfl, d0, d1, hb⟩; have Hb := hide hb; clear hb)
    all_goals
      have HB2 := hide ((unhide HB).trans ((below_of_drew (unhide Hb)).mono (by have := (unhide HB).size; simpa using this)))
      have hF2 : F.answers w2.tape := by rw [(unhide HB2).tape]; exact unhide HF
      have hF' := answers_open hF2
      clear Hb c0 c1 HB hF2
      by_cases ht : trimS v.data.toList cuts = v.data.toList
      · have ht' : str (trimS v.data.toList cuts) = v := by rw [ht]; exact str_self v
        have HT := hide ht
        have hq : (!(v.toList == v.toList)) = false := by simp
        rw [ht', hq]
        clear ht ht' hq
        go_wp2_with fail
        go_loop [3, 4] (fun i _ => ∃ k : Nat, k ≤ v.size ∧ i = .int .i64 k ∧ ∀ j, j < k → ¬ ctl (v.get! j).toNat) (fun i _ => v.size - (RowKit.intOf i).toNat)
        case atStart => exact ⟨0, Nat.zero_le _, rfl, fun j hj => by omega⟩
        case round =>
          obtain ⟨k, hk, rfl, hall⟩ := hrel
          have HA := hide hall
          clear hall
          by_cases hlt : k < v.size
          · have hlt' : (k : Int) < (v.size : Int) := by omega
            have hg := get!_eq v k hlt
            by_cases h1 : (v[k]).toNat = 127
            · have HC : Hid (ctl (v.get! k).toNat) := by rw [hg]; exact Or.inr h1
              have e1 : (((v[k]).toNat : Int) == 127) = true := by rw [h1]; rfl
              have e2 : ¬ ((v[k]).toNat : Int) < 32 := by omega
              clear h1 hg
              go_wp2
              go_ret
              refine ⟨Or.inr ⟨chk_not3 hlt (unhide HC), _, rfl⟩, ?_⟩
              exact (((unhide HB2).alloc (unhide HB2).size _).alloc (by have := (unhide HB2).size; simp; omega) _).drew
            · have e1 : (((v[k]).toNat : Int) == 127) = false := beq_eq_false_iff_ne.2 (by omega)
              by_cases h3 : (v[k]).toNat < 32
              · have h3' : ((v[k]).toNat : Int) < 32 := by omega
                by_cases h2 : (v[k]).toNat = 9
                · have HC : Hid (¬ ctl (v.get! k).toNat) := by
                    rw [hg]
                    rintro (⟨_, h⟩ | h) <;> contradiction
                  have e2 : (((v[k]).toNat : Int) != 9) = false := by simp; omega
                  clear h1 h2 h3 hg
                  go_wp2
                  go_round
                  case rel =>
                    refine ⟨k + 1, by omega, by go_num, fun j hj => ?_⟩
                    by_cases e : j = k
                    · subst e; exact unhide HC
                    · exact unhide HA j (by omega)
                  case measure => simp [RowKit.intOf]; omega
                · have HC : Hid (ctl (v.get! k).toNat) := by rw [hg]; exact Or.inl ⟨h3, h2⟩
                  have e2 : (((v[k]).toNat : Int) != 9) = true := by simp; omega
                  clear h1 h2 h3 hg
                  go_wp2
                  go_ret
                  refine ⟨Or.inr ⟨chk_not3 hlt (unhide HC), _, rfl⟩, ?_⟩
                  exact (((unhide HB2).alloc (unhide HB2).size _).alloc (by have := (unhide HB2).size; simp; omega) _).drew
              · have h3' : ¬ ((v[k]).toNat : Int) < 32 := by omega
                have HC : Hid (¬ ctl (v.get! k).toNat) := by
                  rw [hg]
                  rintro (⟨h, _⟩ | h) <;> contradiction
                clear h1 h3 hg
                go_wp2
                go_round
                case rel =>
                  refine ⟨k + 1, by omega, by go_num, fun j hj => ?_⟩
                  by_cases e : j = k
                  · subst e; exact unhide HC
                  · exact unhide HA j (by omega)
                case measure => simp [RowKit.intOf]; omega
          · go_wp2
            go_ret
            exact ⟨Or.inl ⟨chk_of ((unhide HR).1 (by trivial)) (unhide HT) (fun j hj => unhide HA j (by omega)), rfl⟩, unhide HB2⟩
      · have HT := hide ht
        have hne : (!((str (trimS v.data.toList cuts)).toList == v.toList)) = true := by
          rw [show ((str (trimS v.data.toList cuts)).toList == v.toList) = false from by
            rw [beq_eq_false_iff_ne, ByteArray.toList_eq, ByteArray.toList_eq]
            exact ht]
          rfl
        rw [hne]
        clear ht hne
        generalize str (trimS v.data.toList cuts) = tv
        go_wp2
        go_ret
        refine ⟨Or.inr ⟨chk_not2 (unhide HT), _, rfl⟩, ?_⟩
        exact (((unhide HB2).alloc (unhide HB2).size _).alloc (by have := (unhide HB2).size; simp; omega) _).drew
end Go.Proofs.Qxb6604744aFmt
