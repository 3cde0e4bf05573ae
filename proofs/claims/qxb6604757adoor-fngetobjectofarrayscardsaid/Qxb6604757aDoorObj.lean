/-
  ZZgetObjOfArrays: the object is built, Get is asked, the answer is handed out in plain parts.
-/
import Derived.Test.Qxb6604757aDoorGet
import Derived.Handy
namespace Go.Proofs.Qxb6604757aDoor
open Go.RowKit Go.Lib
attribute [local go_sem] ta32_32 ta33_32 ta9_32 ta0_32 ta33_33 ta9_33 ta0_33 ta9_9 ta0_9

theorem Ents.congr {K : Nat → ByteArray} {V V' : Nat → Value} {k : Nat} {es : Array MapEntry} (h : Ents K V k es) (hv : ∀ j, j < k → V j = V' j) : Ents K V' k es :=
  ⟨h.one, fun i x hx => by
    obtain ⟨q, j, h1, h2, h3⟩ := h.ent i x hx
    exact ⟨q, j, h1, h2, by rw [h3, hv j (lastOf_lt h2).1]⟩, h.all, h.size⟩
theorem MapAt.congr {r : Nat} {K : Nat → ByteArray} {V V' : Nat → Value} {k : Nat} {w : World} (h : MapAt r K V k w) (hv : ∀ j, j < k → V j = V' j) : MapAt r K V' k w := by
  obtain ⟨es, c, hb, hE⟩ := h
  exact ⟨es, c, hb, hE.congr hv⟩
theorem MapAt.below {r : Nat} {K : Nat → ByteArray} {V : Nat → Value} {k B : Nat} {w w' : World} (h : MapAt r K V k w) (hb : Below B w w') (hr : r < B) : MapAt r K V k w' := by
  obtain ⟨es, c, hh, hE⟩ := h
  exact ⟨es, c, by rw [hb.block r hr]; exact hh, hE⟩

/-- Behind k rounds: the map at block w.heap.size, the arrays in new rows. -/
def BuildAt (w : World) (K : Nat → ByteArray) (L : Nat → Nat) (S : Nat → Nat → ByteArray) (k : Nat) (wr : World) : Prop :=
  ∃ B : Nat → Nat, MapAt w.heap.size K (arrV B L) k wr ∧ Elems wr k B L S ∧ (∀ j, j < k → w.heap.size < B j) ∧ w.heap.size < wr.heap.size ∧ Below w.heap.size w wr

theorem build_start (w : World) (K : Nat → ByteArray) (L : Nat → Nat) (S : Nat → Nat → ByteArray) : BuildAt w K L S 0 (w.alloc (.map #[] 0)) :=
  ⟨fun _ => 0, mapAt_start w K _, fun j hj => by omega, fun j hj => by omega, by simp, (Below.refl _ _).alloc (Nat.le_refl _) _⟩

/-- One round: the array's row is filled, then the member is stored. -/
theorem build_step {w : World} {K : Nat → ByteArray} {L : Nat → Nat} {S : Nat → Nat → ByteArray} {k : Nat} {wr w2 : World} (h : BuildAt w K L S k wr) (hR : RowK wr (L k) (fun i => .iface 9 (.string (S k i))) .nilIface (L k) w2) (q : ByteArray) (l : Nat) (hq : q = K k) (hl : l = L k) :
    ∃ w3, (Instr.mapUpdate 32 (.map (some w.heap.size)) (.string q) (.iface 33 (.slice (some ⟨wr.heap.size, 0, none⟩) l l))).run Tryd.prog w2 = .ok () w3 ∧ BuildAt w K L S (k + 1) w3 := by
  obtain ⟨B, hM, hE, hB, hs, hb⟩ := h
  have hb2 := hR.below
  obtain ⟨w3, hrun, hM3, hbut⟩ := ((hM.below hb2 hs).congr (V' := arrV (fun j => if j = k then wr.heap.size else B j) L) (fun j hj => by
    have : j ≠ k := by omega
    simp [arrV, this])).store q (.iface 33 (.slice (some ⟨wr.heap.size, 0, none⟩) l l)) hq (by simp [arrV, hl])
  refine ⟨w3, hrun, fun j => if j = k then wr.heap.size else B j, hM3, fun j hj i hi => ?_, fun j hj => ?_, ?_, ?_⟩
  · by_cases e : j = k
    · subst e
      simp only [if_true]
      rw [hbut.cell (by show wr.heap.size ≠ w.heap.size; omega)]
      have := hR.row i hi
      rw [if_pos hi] at this
      exact this
    · simp only [e, if_false]
      rw [hbut.cell (by show B j ≠ w.heap.size; have := hB j (by omega); omega)]
      have hc := hE j (by omega) i hi
      exact (hb2.cell (World.block_lt_of_cell? _ _ hc)).trans hc
  · by_cases e : j = k
    · simp only [e, if_true]; exact hs
    · simp only [e, if_false]; exact hB j (by omega)
  · rw [hbut.size]
    exact Nat.lt_trans hs hR.size
  · exact hbut.below (hb.trans (hb2.mono (Nat.le_of_lt hs))) (Nat.le_refl _)

/-- What is handed out. -/
def ObjPost (m q : Nat) (K P : Nat → ByteArray) (L : Nat → Nat) (S : Nat → Nat → ByteArray) (w : World) (e : Ending) (w' : World) : Prop :=
  ((q = 0 ∧ e = .returned (.tuple #[.int .i64 1, .int .i64 (many K m : Nat), .slice none 0 0, .bool true])) ∨ (0 < q ∧ lastOf K (P 0) m = none ∧ e = .returned (.tuple #[.int .i64 0, .int .i64 0, .slice none 0 0, .bool false])) ∨
    ∃ j, 0 < q ∧ lastOf K (P 0) m = some j ∧ ((q = 1 ∧ ∃ a c, e = .returned (.tuple #[.int .i64 2, .int .i64 (L j : Nat), .slice a (L j) c, .bool true]) ∧ StrRow w' a (L j) (S j)) ∨
      (2 ≤ q ∧ ¬ (Canon (P 1).data.toList ∧ val 0 (P 1).data.toList < L j) ∧ e = .returned (.tuple #[.int .i64 0, .int .i64 0, .slice none 0 0, .bool false])) ∨
      (q = 2 ∧ Canon (P 1).data.toList ∧ val 0 (P 1).data.toList < L j ∧ ∃ a c, e = .returned (.tuple #[.int .i64 3, .int .i64 1, .slice a 1 c, .bool true]) ∧ StrRow w' a 1 (fun _ => S j (val 0 (P 1).data.toList))) ∨
      (3 ≤ q ∧ e = .returned (.tuple #[.int .i64 0, .int .i64 0, .slice none 0 0, .bool false])))) ∧ Below w.heap.size w w'

set_option maxRecDepth 100000 in
set_option maxHeartbeats 4000000 in
theorem obj_any (a1 : Option Addr) (n c1 : Nat) (K : Nat → ByteArray) (a2 : Option Addr) (m c2 : Nat) (A : Nat → Option Addr) (L C : Nat → Nat) (S : Nat → Nat → ByteArray) (a3 : Option Addr) (q c3 : Nat) (P : Nat → ByteArray) (w : World)
    (hK : StrRow w a1 n K) (hN : NestRow w a2 m A L C S) (hP : StrRow w a3 q P) (hKs : Lim n K) (hNs : LimN m L S) (hPs : Lim q P) (hE : ErrVar w) :
    Calls Tryd.prog 9 #[.slice a1 n c1, .slice a2 m c2, .slice a3 q c3] w fun e w' => ObjPost (min n m) q K P L S w e w' := by
  have HK := hide hK
  have HN := hide hN
  have HP := hide hP
  have HNs := hide hNs
  have HPs := hide hPs
  have HE := hide hE
  have hn := hKs.1
  have hm := hNs.1
  clear hK hN hP hKs hNs hPs hE
  have hmm := make32
  go_enter Tryd.func9, Tryd.ntmps9
  go_wp2_with fail
  clear hmm
  go_loopw [11, 12, 13] (fun i _ _ wr => ∃ k : Nat, k ≤ min n m ∧ i = .int .i64 k ∧ BuildAt w K L S k wr) (fun i _ _ _ => min n m - (RowKit.intOf i).toNat)
  case atStart => exact ⟨0, Nat.zero_le _, rfl, build_start w K L S⟩
  case round =>
    obtain ⟨k, hk, rfl, hB⟩ := hrel
    by_cases hlt : k < min n m
    · have hkn : k < n := by omega
      have hkm : k < m := by omega
      have hkn' : (k : Int) < (n : Int) := by omega
      have hkm' : (k : Int) < (m : Int) := by omega
      have hbel : Below w.heap.size w wr := hB.elim fun _ h => h.2.2.2.2
      obtain ⟨b1, off1, rfl, hc1⟩ := (unhide HK) k hkn
      obtain ⟨b2, off2, rfl, hc2, hs2⟩ := (unhide HN) k hkm
      have hlk : L k ≤ 1048576 := ((unhide HNs).2 k hkm).1
      have hc1' : wr.cell? ⟨b1, off1 + k, none⟩ = some (.string (K k)) := (hbel.cell (World.block_lt_of_cell? _ _ hc1)).trans hc1
      have hc2' : wr.cell? ⟨b2, off2 + k, none⟩ = some (.slice (A k) (L k) (C k)) := (hbel.cell (World.block_lt_of_cell? _ _ hc2)).trans hc2
      have Hs := hide (hs2.below hbel)
      have HB := hide hB
      have hlt1 : b1 < wr.heap.size := World.block_lt_of_cell? _ _ hc1'
      have hlt2 : b2 < wr.heap.size := World.block_lt_of_cell? _ _ hc2'
      obtain ⟨qk, hqk⟩ : ∃ x, K k = x := ⟨_, rfl⟩
      obtain ⟨lk, hlk2⟩ : ∃ x, L k = x := ⟨_, rfl⟩
      obtain ⟨ak, hak⟩ : ∃ x, A k = x := ⟨_, rfl⟩
      rw [hqk] at hc1'
      rw [hlk2, hak] at hc2'
      rw [hlk2] at hlk
      have Hs2 := Hs
      rw [hak] at Hs Hs2
      rw [hlk2] at Hs2
      have Hqk := hide hqk
      have Hlk := hide hlk2
      clear hc1 hc2 hs2 hB hbel hqk hlk2 hak Hs
      generalize C k = ck at hc2'
      have hmk := run_make_row' (P := Tryd.prog) 33 20 .nilIface 16 Tryd.underlying33 Tryd.info20 rfl .i64 .i64 lk (by omega) (by omega)
      obtain ⟨wo, hwo⟩ : ∃ x, x = wr := ⟨_, rfl⟩
      subst hwo
      go_wp2_with fail
      clear hmk
      go_loopw [13] (fun i w2 => ∃ h : Nat, h ≤ lk ∧ i = .int .i64 h ∧ RowK wo lk (fun i => .iface 9 (.string (S k i))) .nilIface h w2) (fun i _ => lk - (RowKit.intOf i).toNat)
      case atStart => exact ⟨0, Nat.zero_le _, rfl, rowK_start wo lk _ _ _⟩
      case round =>
        obtain ⟨h, hh, rfl, hR⟩ := hrel
        have d1 : wr.cell? ⟨b1, off1 + k, none⟩ = some (.string qk) := (hR.below.cell hlt1).trans hc1'
        have d2 : wr.cell? ⟨b2, off2 + k, none⟩ = some (.slice ak lk ck) := (hR.below.cell hlt2).trans hc2'
        clear hc1' hc2'
        by_cases hh2 : h < lk
        · have hh2' : (h : Int) < (lk : Int) := by omega
          obtain ⟨b3, off3, rfl, hc3⟩ := (unhide Hs2) h hh2
          have d3 : wr.cell? ⟨b3, off3 + h, none⟩ = some (.string (S k h)) := (hR.below.cell (World.block_lt_of_cell? _ _ hc3)).trans hc3
          have hr := hR.row h hh2
          rw [if_neg (by omega)] at hr
          have hf := hR.froz h hh2
          have HR := hide hR
          obtain ⟨sv, hsv⟩ : ∃ x, S k h = x := ⟨_, rfl⟩
          rw [hsv] at d3
          have Hsv := hide hsv
          clear hR hc3 hsv
          go_wp2
          go_roundw
          case rel => exact ⟨h + 1, by omega, by go_num, (unhide HR).step hh2 _ (by rw [unhide Hsv])⟩
          case measure => simp [RowKit.intOf]; omega
        · have hh2' : ¬ (h : Int) < (lk : Int) := by omega
          obtain rfl : h = lk := by omega
          obtain ⟨w3, hrun, hB3⟩ := build_step (unhide HB) (by rw [unhide Hlk]; exact hR) qk h (unhide Hqk).symm (unhide Hlk).symm
          have HB3 := hide hB3
          clear hB3 hR HB
          go_wp2
          go_roundw
          case rel => exact ⟨k + 1, by omega, by go_num, unhide HB3⟩
          case measure => simp [RowKit.intOf]; omega
    · obtain ⟨B, hM, hEl, hBl, hsz, hbel⟩ := hB
      have hkm : k = min n m := by omega
      rw [hkm] at hM hEl
      have HM := hide hM
      have HEl := hide hEl
      have Hbel := hide hbel
      have HP2 := hide ((unhide HP).below hbel)
      have HE2 := hide ((unhide HE).below hbel)
      have HL : Hid (∀ j, j < min n m → L j ≤ 1048576) := fun j hj => ((unhide HNs).2 j (by omega)).1
      clear hM hEl hbel hBl hkm
      have hcond : ((k : Int) < (n : Int) ∧ ¬ (k : Int) < (m : Int)) ∨ ¬ (k : Int) < (n : Int) := by omega
      rcases hcond with ⟨hx, hy⟩ | hx
      · go_wp2_with fail
        refine (get_any w.heap.size (min n m) q c3 a3 K P B L S wr (unhide HM) (unhide HP2) (unhide HPs) (unhide HL) (unhide HEl) (unhide HE2)).mono ?_
        rintro e w4 ⟨(⟨q0, rfl⟩ | ⟨q0, hl, rfl⟩ | ⟨j, q0, hl, (⟨q1, rfl⟩ | ⟨q1, hno, rfl⟩ | ⟨q1, hcan, hval, rfl⟩ | ⟨q1, rfl⟩)⟩), hb4⟩
        · have hlen := ((unhide HM).below hb4 hsz).len 3
          have HB4 := hide ((unhide Hbel).trans (hb4.mono (unhide Hbel).size))
          clear hb4
          go_wp2
          go_returns
          exact ⟨Or.inl ⟨q0, rfl⟩, unhide HB4⟩
        · have HB4 := hide ((unhide Hbel).trans (hb4.mono (unhide Hbel).size))
          have Hl := hide hl
          clear hb4 hl
          go_wp2
          go_returns
          exact ⟨Or.inr (Or.inl ⟨q0, unhide Hl, rfl⟩), unhide HB4⟩
        · have HB4 := hide ((unhide Hbel).trans (hb4.mono (unhide Hbel).size))
          have Hl := hide hl
          have HEl4 := hide (((unhide HEl).below hb4) j (lastOf_lt hl).1)
          have hLj := (unhide HL) j (lastOf_lt hl).1
          clear hb4 hl
          have Hq1 := hide q1
          clear q1
          have hv : arrV B L j = .iface 33 (.slice (some ⟨B j, 0, none⟩) (L j) (L j)) := rfl
          rw [hv]
          clear hv
          obtain ⟨Bj, hBj⟩ : ∃ x, B j = x := ⟨_, rfl⟩
          obtain ⟨Lj, hLj2⟩ : ∃ x, L j = x := ⟨_, rfl⟩
          rw [hBj, hLj2]
          rw [hLj2, hBj] at HEl4
          rw [hLj2] at hLj
          have HLj := hide hLj2
          clear hBj hLj2
          have hmk := run_make_row' (P := Tryd.prog) 22 9 (.string ByteArray.empty) 16 Tryd.underlying22 Tryd.info9 rfl .i64 .i64 Lj (by omega) (by omega)
          go_wp2_with fail
          clear hmk
          go_loopw [19, 20, 21] (fun i _ _ w5 => ∃ h : Nat, h ≤ Lj ∧ i = .int .i64 h ∧ RowK w4 Lj (fun i => .string (S j i)) (.string ByteArray.empty) h w5) (fun i _ _ _ => Lj - (RowKit.intOf i).toNat)
          case atStart => exact ⟨0, Nat.zero_le _, rfl, rowK_start w4 Lj _ _ _⟩
          case round =>
            obtain ⟨h, hh, rfl, hR⟩ := hrel
            by_cases hh2 : h < Lj
            · have hh2' : (h : Int) < (Lj : Int) := by omega
              have hc3 := (unhide HEl4) h hh2
              have d3 := (hR.below.cell (World.block_lt_of_cell? _ _ hc3)).trans hc3
              have hr := hR.row h hh2
              rw [if_neg (by omega)] at hr
              have hf := hR.froz h hh2
              have HR := hide hR
              obtain ⟨sv, hsv⟩ : ∃ x, S j h = x := ⟨_, rfl⟩
              rw [hsv] at d3
              have Hsv := hide hsv
              clear hR hc3 hsv
              go_wp2
              go_roundw
              case rel => exact ⟨h + 1, by omega, by go_num, (unhide HR).step hh2 _ (by rw [unhide Hsv])⟩
              case measure => simp [RowKit.intOf]; omega
            · have hh2' : ¬ (h : Int) < (Lj : Int) := by omega
              obtain rfl : h = Lj := by omega
              have HR := hide hR
              clear hR
              go_wp2
              go_returns
              refine ⟨Or.inr (Or.inr ⟨j, q0, unhide Hl, Or.inl ⟨unhide Hq1, some ⟨w4.heap.size, 0, none⟩, h, by rw [unhide HLj], ?_⟩⟩), (unhide HB4).trans ((unhide HR).below.mono (unhide HB4).size)⟩
              rw [unhide HLj]
              intro i hi
              refine ⟨w4.heap.size, 0, rfl, ?_⟩
              have := (unhide HR).row i hi
              rw [if_pos hi] at this
              simpa using this
        · have HB4 := hide ((unhide Hbel).trans (hb4.mono (unhide Hbel).size))
          have Hl := hide hl
          have Hno := hide hno
          clear hb4 hl hno
          go_wp2
          go_returns
          exact ⟨Or.inr (Or.inr ⟨j, q0, unhide Hl, Or.inr (Or.inl ⟨q1, unhide Hno, rfl⟩)⟩), unhide HB4⟩
        · have HB4 := hide ((unhide Hbel).trans (hb4.mono (unhide Hbel).size))
          have Hl := hide hl
          have Hcan := hide hcan
          have Hval := hide hval
          clear hb4 hl hcan hval
          generalize hsv : S j (val 0 (P 1).data.toList) = sv
          have Hsv := hide hsv
          clear hsv
          go_wp2
          go_returns
          refine ⟨Or.inr (Or.inr ⟨j, q0, unhide Hl, Or.inr (Or.inr (Or.inl ⟨q1, unhide Hcan, unhide Hval, some ⟨w4.heap.size, 0, none⟩, 1, rfl, ?_⟩))⟩), (unhide HB4).alloc (unhide HB4).size _⟩
          intro i hi
          obtain rfl : i = 0 := by omega
          refine ⟨w4.heap.size, 0, rfl, ?_⟩
          rw [unhide Hsv]
          simp
        · have HB4 := hide ((unhide Hbel).trans (hb4.mono (unhide Hbel).size))
          have Hl := hide hl
          clear hb4 hl
          go_wp2
          go_returns
          exact ⟨Or.inr (Or.inr ⟨j, q0, unhide Hl, Or.inr (Or.inr (Or.inr ⟨q1, rfl⟩))⟩), unhide HB4⟩
      · go_wp2_with fail
        refine (get_any w.heap.size (min n m) q c3 a3 K P B L S wr (unhide HM) (unhide HP2) (unhide HPs) (unhide HL) (unhide HEl) (unhide HE2)).mono ?_
        rintro e w4 ⟨(⟨q0, rfl⟩ | ⟨q0, hl, rfl⟩ | ⟨j, q0, hl, (⟨q1, rfl⟩ | ⟨q1, hno, rfl⟩ | ⟨q1, hcan, hval, rfl⟩ | ⟨q1, rfl⟩)⟩), hb4⟩
        · have hlen := ((unhide HM).below hb4 hsz).len 3
          have HB4 := hide ((unhide Hbel).trans (hb4.mono (unhide Hbel).size))
          clear hb4
          go_wp2
          go_returns
          exact ⟨Or.inl ⟨q0, rfl⟩, unhide HB4⟩
        · have HB4 := hide ((unhide Hbel).trans (hb4.mono (unhide Hbel).size))
          have Hl := hide hl
          clear hb4 hl
          go_wp2
          go_returns
          exact ⟨Or.inr (Or.inl ⟨q0, unhide Hl, rfl⟩), unhide HB4⟩
        · have HB4 := hide ((unhide Hbel).trans (hb4.mono (unhide Hbel).size))
          have Hl := hide hl
          have HEl4 := hide (((unhide HEl).below hb4) j (lastOf_lt hl).1)
          have hLj := (unhide HL) j (lastOf_lt hl).1
          clear hb4 hl
          have Hq1 := hide q1
          clear q1
          have hv : arrV B L j = .iface 33 (.slice (some ⟨B j, 0, none⟩) (L j) (L j)) := rfl
          rw [hv]
          clear hv
          obtain ⟨Bj, hBj⟩ : ∃ x, B j = x := ⟨_, rfl⟩
          obtain ⟨Lj, hLj2⟩ : ∃ x, L j = x := ⟨_, rfl⟩
          rw [hBj, hLj2]
          rw [hLj2, hBj] at HEl4
          rw [hLj2] at hLj
          have HLj := hide hLj2
          clear hBj hLj2
          have hmk := run_make_row' (P := Tryd.prog) 22 9 (.string ByteArray.empty) 16 Tryd.underlying22 Tryd.info9 rfl .i64 .i64 Lj (by omega) (by omega)
          go_wp2_with fail
          clear hmk
          go_loopw [19, 20, 21] (fun i _ _ w5 => ∃ h : Nat, h ≤ Lj ∧ i = .int .i64 h ∧ RowK w4 Lj (fun i => .string (S j i)) (.string ByteArray.empty) h w5) (fun i _ _ _ => Lj - (RowKit.intOf i).toNat)
          case atStart => exact ⟨0, Nat.zero_le _, rfl, rowK_start w4 Lj _ _ _⟩
          case round =>
            obtain ⟨h, hh, rfl, hR⟩ := hrel
            by_cases hh2 : h < Lj
            · have hh2' : (h : Int) < (Lj : Int) := by omega
              have hc3 := (unhide HEl4) h hh2
              have d3 := (hR.below.cell (World.block_lt_of_cell? _ _ hc3)).trans hc3
              have hr := hR.row h hh2
              rw [if_neg (by omega)] at hr
              have hf := hR.froz h hh2
              have HR := hide hR
              obtain ⟨sv, hsv⟩ : ∃ x, S j h = x := ⟨_, rfl⟩
              rw [hsv] at d3
              have Hsv := hide hsv
              clear hR hc3 hsv
              go_wp2
              go_roundw
              case rel => exact ⟨h + 1, by omega, by go_num, (unhide HR).step hh2 _ (by rw [unhide Hsv])⟩
              case measure => simp [RowKit.intOf]; omega
            · have hh2' : ¬ (h : Int) < (Lj : Int) := by omega
              obtain rfl : h = Lj := by omega
              have HR := hide hR
              clear hR
              go_wp2
              go_returns
              refine ⟨Or.inr (Or.inr ⟨j, q0, unhide Hl, Or.inl ⟨unhide Hq1, some ⟨w4.heap.size, 0, none⟩, h, by rw [unhide HLj], ?_⟩⟩), (unhide HB4).trans ((unhide HR).below.mono (unhide HB4).size)⟩
              rw [unhide HLj]
              intro i hi
              refine ⟨w4.heap.size, 0, rfl, ?_⟩
              have := (unhide HR).row i hi
              rw [if_pos hi] at this
              simpa using this
        · have HB4 := hide ((unhide Hbel).trans (hb4.mono (unhide Hbel).size))
          have Hl := hide hl
          have Hno := hide hno
          clear hb4 hl hno
          go_wp2
          go_returns
          exact ⟨Or.inr (Or.inr ⟨j, q0, unhide Hl, Or.inr (Or.inl ⟨q1, unhide Hno, rfl⟩)⟩), unhide HB4⟩
        · have HB4 := hide ((unhide Hbel).trans (hb4.mono (unhide Hbel).size))
          have Hl := hide hl
          have Hcan := hide hcan
          have Hval := hide hval
          clear hb4 hl hcan hval
          generalize hsv : S j (val 0 (P 1).data.toList) = sv
          have Hsv := hide hsv
          clear hsv
          go_wp2
          go_returns
          refine ⟨Or.inr (Or.inr ⟨j, q0, unhide Hl, Or.inr (Or.inr (Or.inl ⟨q1, unhide Hcan, unhide Hval, some ⟨w4.heap.size, 0, none⟩, 1, rfl, ?_⟩))⟩), (unhide HB4).alloc (unhide HB4).size _⟩
          intro i hi
          obtain rfl : i = 0 := by omega
          refine ⟨w4.heap.size, 0, rfl, ?_⟩
          rw [unhide Hsv]
          simp
        · have HB4 := hide ((unhide Hbel).trans (hb4.mono (unhide Hbel).size))
          have Hl := hide hl
          clear hb4 hl
          go_wp2
          go_returns
          exact ⟨Or.inr (Or.inr ⟨j, q0, unhide Hl, Or.inr (Or.inr (Or.inr ⟨q1, rfl⟩))⟩), unhide HB4⟩
end Go.Proofs.Qxb6604757aDoor
