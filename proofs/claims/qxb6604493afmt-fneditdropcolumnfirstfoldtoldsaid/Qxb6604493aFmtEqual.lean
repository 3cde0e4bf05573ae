/-
  strings.EqualFold returns: true where the texts differ at most in the case of ASCII letters; false where both are ASCII and differ beyond it.
-/
import Derived.Test.Qxb6604493aFmtFold
import Derived.Test.Qxb6604493aFmtSame
import Derived.ScopeJumps
import Derived.WalkMore
namespace Go.Proofs.Qxb6604493aFmt
open Go.RowKit Go.Lib

def EqPost (s t : ByteArray) (w : World) (e : Ending) (w' : World) : Prop :=
  (∃ b : Bool, e = .returned (.bool b) ∧ (Same s t → b = true) ∧ (Diff s t → b = false)) ∧ Below w.heap.size w w'

/-- At the jump to the label: the frame; a byte that is no ASCII lies at place k of one of the two. -/
def JumpAt (s t : ByteArray) (w : World) (a' : Act) (w' : World) : Prop :=
  w' = w ∧ ∃ (k : Nat) (u4 u6 u7 u8 u14 u15 u16 u17 u18 u19 u20 u21 u22 u23 u24 u25 u26 u27 u28 u29 u30 u31 u32 u33 u34 u35 u36 u37 u38 u39 u40 u41 u42 u43 u44 u45 u46 u47 u48 u49 u50 u51 u52 u53 u54 : Value), a' = { tmps := #[.string s, .string t, undef, undef, u4, .int .i64 (k : Nat), u6, u7, u8, undef, undef, undef, undef, undef, u14, u15, u16, u17, u18, u19, u20, u21, u22, u23, u24, u25, u26, u27, u28, u29, u30, u31, u32, u33, u34, u35, u36, u37, u38, u39, u40, u41, u42, u43, u44, u45, u46, u47, u48, u49, u50, u51, u52, u53, u54, undef, undef, undef, undef, undef, undef, undef, undef, undef, undef, undef, undef, undef, undef, undef, undef, undef, undef, undef, undef, undef, undef, undef, undef, undef, undef, undef, undef, undef, undef, undef, undef, undef, undef, undef, undef, undef, undef, undef, undef, undef, undef, undef, undef, undef, undef, undef, undef, undef, undef, undef, undef, undef, undef, undef, undef, undef, undef, undef, undef, undef, undef, undef, undef, undef, undef, undef, undef], defers := [] } ∧ k ≤ s.size ∧ k ≤ t.size ∧ ¬ (Asc s ∧ Asc t)

theorem or_high (x y : Nat) (hx : x < 256) (hy : y < 256) : bits .or .u8 (x : Int) (y : Int) = ((x ||| y : Nat) : Int) := u8_or_nat _ _ (by omega) (by omega)
theorem or_low (x y : Nat) (hx : x < 128) (hy : y < 128) : x ||| y < 128 := Nat.or_lt_two_pow (n := 7) hx hy

theorem lowr_yes {x y : Nat} (h : x = y ∨ (65 ≤ x ∧ x ≤ 90 ∧ y = x + 32) ∨ (65 ≤ y ∧ y ≤ 90 ∧ x = y + 32)) : lowr x = lowr y := by
  unfold lowr
  split <;> split <;> omega
theorem lowr_no {x y : Nat} (h : x ≠ y ∧ ¬ (65 ≤ x ∧ x ≤ 90 ∧ y = x + 32) ∧ ¬ (65 ≤ y ∧ y ≤ 90 ∧ x = y + 32)) : lowr x ≠ lowr y := by
  unfold lowr
  split <;> split <;> omega
theorem loop1_step {s t : ByteArray} {k : Nat} {x y : UInt8} (hA : ∀ j, j < k → (s.get! j).toNat < 128 ∧ (t.get! j).toNat < 128 ∧ lowr (s.get! j).toNat = lowr (t.get! j).toNat)
    (hx : s.get! k = x) (hy : t.get! k = y) (hl : x.toNat < 128 ∧ y.toNat < 128) (he : lowr x.toNat = lowr y.toNat) :
    ∀ j, j < k + 1 → (s.get! j).toNat < 128 ∧ (t.get! j).toNat < 128 ∧ lowr (s.get! j).toNat = lowr (t.get! j).toNat := by
  intro j hj
  by_cases e : j = k
  · subst e
    rw [hx, hy]
    exact ⟨hl.1, hl.2, he⟩
  · exact hA j (by omega)
theorem same_at {s t : ByteArray} {k : Nat} {x y : UInt8} (h : Same s t) (hx : s.get! k = x) (hy : t.get! k = y) (hk : k < s.size) : lowr x.toNat = lowr y.toNat := by
  have := h.2 k hk
  rwa [hx, hy] at this

set_option maxRecDepth 100000 in
set_option maxHeartbeats 2000000 in
theorem equalFold_any (s t : ByteArray) (w : World) (hs : s.size ≤ 1048576) (ht : t.size ≤ 1048576) (hT : FoldTabs w) (hU : Utf8Tabs 3 4 w) :
    Calls Tryf.prog 23 #[.string s, .string t] w fun e w' => EqPost s t w e w' := by
  have HT := hide hT
  have HU := hide hU
  clear hT hU
  obtain ⟨M, hM⟩ : ∃ M : Nat, min (s.size : Int) (t.size : Int) = (M : Int) := ⟨min s.size t.size, by omega⟩
  have hMs : M ≤ s.size := by omega
  have hMt : M ≤ t.size := by omega
  have HMe : Hid (M = s.size ∨ M = t.size) := by show _ ∨ _; omega
  go_enter Tryf.func23, Tryf.ntmps23
  go_wp2
  refine wp_scope_jumps 0 (JumpAt s t w) (fun _ _ => 0) rfl ?_ ?_
  · go_wp2
    clear hM
    go_loop [5, 7, 8] (fun i _ _ => ∃ k : Nat, k ≤ M ∧ i = .int .i64 k ∧ ∀ j, j < k → (s.get! j).toNat < 128 ∧ (t.get! j).toNat < 128 ∧ lowr (s.get! j).toNat = lowr (t.get! j).toNat) (fun i _ _ => M - (RowKit.intOf i).toNat)
    case atStart => exact ⟨0, Nat.zero_le _, rfl, fun j hj => by omega⟩
    case round =>
      obtain ⟨k, hk, rfl, hall⟩ := hrel
      have HA := hide hall
      clear hall
      by_cases hlt : k < M
      · have hisz : (k : Int) < (s.size : Int) := by omega
        have hitz : (k : Int) < (t.size : Int) := by omega
        have hkM : (k : Int) < (M : Int) := by omega
        obtain ⟨x, hx⟩ : ∃ x : UInt8, s[k]'(by omega) = x := ⟨_, rfl⟩
        obtain ⟨y, hy⟩ : ∃ y : UInt8, t[k]'(by omega) = y := ⟨_, rfl⟩
        have Hx : Hid (s.get! k = x) := by show _ = _; rw [get!_eq s k (by omega)]; exact hx
        have Hy : Hid (t.get! k = y) := by show _ = _; rw [get!_eq t k (by omega)]; exact hy
        have x256 := x.toNat_lt
        have y256 := y.toNat_lt
        have hor := or_high x.toNat y.toNat (by omega) (by omega)
        by_cases hhi : 128 ≤ x.toNat ∨ 128 ≤ y.toNat
        · have hor128 : (128 : Int) ≤ ((x.toNat ||| y.toNat : Nat) : Int) := by
            have a : x.toNat ≤ x.toNat ||| y.toNat := Nat.left_le_or
            have b : y.toNat ≤ x.toNat ||| y.toNat := Nat.right_le_or
            omega
          have Hn : Hid (¬ (Asc s ∧ Asc t)) := by
            rintro ⟨a, b⟩
            have a' := a k (by omega)
            have b' := b k (by omega)
            rw [unhide Hx] at a'
            rw [unhide Hy] at b'
            omega
          clear hhi
          go_wp2
          go_step3
          refine ⟨rfl, rfl, k, _, _, _, _, _, _, _, _, _, _, _, _, _, _, _, _, _, _, _, _, _, _, _, _, _, _, _, _, _, _, _, _, _, _, _, _, _, _, _, _, _, _, _, _, _, rfl, by omega, by omega, unhide Hn⟩
        · have hor128 : ¬ (128 : Int) ≤ ((x.toNat ||| y.toNat : Nat) : Int) := by
            have := or_low x.toNat y.toNat (by omega) (by omega)
            omega
          have Hlo : Hid (x.toNat < 128 ∧ y.toNat < 128) := by show _ ∧ _; omega
          have hlo2 : x.toNat < 128 := by omega
          have hlo3 : y.toNat < 128 := by omega
          clear hhi
          go_wp2
          all_goals (try simp only [beq_iff_eq, beq_eq_false_iff_ne, ne_eq] at *)
          all_goals first
            | (go_round
               case rel => exact ⟨k + 1, by omega, by go_num, loop1_step (unhide HA) (unhide Hx) (unhide Hy) (unhide Hlo) (lowr_yes (by omega))⟩
               case measure => simp [RowKit.intOf]; omega)
            | (simp only [Exit.jump]
               go_ret
               exact ⟨⟨false, rfl, fun h => absurd (same_at h (unhide Hx) (unhide Hy) (by omega)) (lowr_no (by omega)), fun _ => rfl⟩, Below.refl _ _⟩)
      · have hkM : ¬ (k : Int) < (M : Int) := by omega
        by_cases hst : s.size = t.size
        · have hb : ((s.size : Int) == (t.size : Int)) = true := beq_iff_eq.2 (by omega)
          have Hfin : Hid (Same s t) := ⟨hst, fun j hj => ((unhide HA) j (by have := unhide HMe; omega)).2.2⟩
          clear hst
          go_wp2
          simp only [Exit.jump]
          go_ret
          exact ⟨⟨true, rfl, fun _ => rfl, fun h => absurd (unhide Hfin) h.2.2⟩, Below.refl _ _⟩
        · have hb : ((s.size : Int) == (t.size : Int)) = false := beq_eq_false_iff_ne.2 (by omega)
          have Hfin : Hid (¬ Same s t) := fun h => hst h.1
          clear hst
          go_wp2
          simp only [Exit.jump]
          go_ret
          exact ⟨⟨false, rfl, fun h => absurd h (unhide Hfin), fun _ => rfl⟩, Below.refl _ _⟩
  · rintro a' w' ⟨rfl, k, u4, u6, u7, u8, u14, u15, u16, u17, u18, u19, u20, u21, u22, u23, u24, u25, u26, u27, u28, u29, u30, u31, u32, u33, u34, u35, u36, u37, u38, u39, u40, u41, u42, u43, u44, u45, u46, u47, u48, u49, u50, u51, u52, u53, u54, rfl, hks, hkt, hn⟩
    have Hn := hide hn
    have hM' := hM
    clear hn hM hM' hMs hMt HMe M
    have hks' : (k : Int) ≤ (s.size : Int) := by omega
    have hkt' : (k : Int) ≤ (t.size : Int) := by omega
    have Hst : Hid (Same s t → SameAt (s.extract k s.size) 0 (t.extract k t.size)) := fun h => sameAt_start h k hks
    have hz1 : (s.extract k s.size).size ≤ 1048576 := by simp; omega
    have hz2 : (t.extract k t.size).size ≤ 1048576 := by simp; omega
    go_wp2
    generalize s.extract k s.size = S1 at Hst hz1 ⊢
    generalize t.extract k t.size = T1 at Hst hz2 ⊢
    go_loopw [1] (fun v1 wr => ∃ (pos : Nat) (t1 : ByteArray), v1 = .string t1 ∧ wr.heap[w'.heap.size]? = some (.stringIter S1 pos) ∧ Below w'.heap.size w' wr ∧ t1.size ≤ 1048576 ∧ (Same s t → SameAt S1 pos t1)) (fun _ wr => S1.size - wr.iterPos w'.heap.size)
    case atStart => exact ⟨0, T1, rfl, World.iter_heap w' S1 0, (Below.refl _ w').alloc (Nat.le_refl _) _, hz2, unhide Hst⟩
    case round =>
      obtain ⟨pos, t1, rfl, hit, hbw, hz3, hsame⟩ := hrel
      have HS := hide hsame
      clear hsame hz2 Hst
      have hsz : w'.heap.size < wr.heap.size := (Array.getElem?_eq_some_iff.1 hit).1
      by_cases hp : pos < S1.size
      · have hnx : ∀ ty, (Instr.next (.pointer (some ⟨w'.heap.size, 0, none⟩)) true ty).run Tryf.prog wr = _ := fun ty => run_next_any_at wr w'.heap.size S1 pos ty hit hp
        have hwd := Lib.width_pos S1 pos
        have hd1 := Lib.rune_le S1 pos
        have hit2 := iterAt_heap wr w'.heap.size S1 pos (pos + (Utf8.decode S1 pos).2) hit
        have hbw2 := below_iterAt hbw (k := w'.heap.size) (Nat.le_refl _) S1 (pos + (Utf8.decode S1 pos).2)
        have hds := fun h => decode_same ((unhide HS) h) hp
        have hne : t1.size = 0 → ¬ Same s t := fun h0 h => by have := ((unhide HS) h).2.1; omega
        obtain ⟨r, hr⟩ : ∃ r, (Utf8.decode S1 pos).1 = r := ⟨_, rfl⟩
        obtain ⟨d, hd⟩ : ∃ d, (Utf8.decode S1 pos).2 = d := ⟨_, rfl⟩
        obtain ⟨W, hW⟩ : ∃ W, wr.iterAt w'.heap.size S1 (pos + d) = W := ⟨_, rfl⟩
        simp only [hr, hd] at hwd hd1 hit2 hbw2 hnx hds
        simp only [hW] at hit2 hbw2 hnx
        have Hit := hide hit2
        have Hit0 := hide hit
        have HbW := hide hbw2
        have HTW := hide ((unhide HT).below hbw2)
        have HUW := hide (Utf8Tabs_below (unhide HU) hbw2)
        have Hds := hide hds
        have Hne := hide hne
        clear hit2 hbw2 hr hd hW hit hbw hds hne
        by_cases h0 : t1.size = 0
        · have h0' : ((t1.size : Int) == 0) = true := by simp [h0]
          have Hno := hide ((unhide Hne) h0)
          clear Hne h0
          go_wp2
          simp only [Exit.jump]
          go_ret
          exact ⟨⟨false, rfl, fun h => absurd h (unhide Hno), fun _ => rfl⟩, unhide HbW⟩
        · have h0' : ((t1.size : Int) == 0) = false := beq_eq_false_iff_ne.2 (by omega)
          clear Hne
          have hwt := decode_width t1 (by omega)
          have hrt := Lib.rune_le t1 0
          have hdg : decodeGo t1 = Utf8.decode t1 0 := by unfold decodeGo; rw [if_neg h0]
          go_wp2_with fail
          refine (Tryf.utf8_DecodeRuneInString t1 W (unhide HUW)).mono ?_
          rw [hdg]
          obtain ⟨r2, hr2⟩ : ∃ r2, (Utf8.decode t1 0).1 = r2 := ⟨_, rfl⟩
          obtain ⟨d2, hd2⟩ : ∃ d2, (Utf8.decode t1 0).2 = d2 := ⟨_, rfl⟩
          have Hds2 := hide (unhide Hds)
          simp only [hr2, hd2] at hwt hrt Hds2 ⊢
          clear Hds hdg hr2 hd2 h0
          rintro e w1 ⟨rfl, hb1⟩
          have Hit1 : Hid (w1.heap[w'.heap.size]? = some (.stringIter S1 (pos + d))) := by
            show _ = _
            rw [hb1.block _ (Array.getElem?_eq_some_iff.1 (unhide Hit)).1]
            exact unhide Hit
          have Hbw1 : Hid (Below w'.heap.size w' w1) := (unhide HbW).trans (hb1.mono (unhide HbW).size)
          have HT1 := hide ((unhide HT).below (unhide Hbw1))
          have Hnext : Hid (Same s t → SameAt S1 (pos + d) (t1.extract d2 t1.size)) := fun h => by
            have e := ((unhide Hds2) h).1
            rw [e]
            exact sameAt_step ((unhide HS) h) hwt
          have Hru : Hid (Same s t → r = r2 ∨ (r < 128 ∧ r2 < 128 ∧ lowr r = lowr r2)) := fun h => ((unhide Hds2) h).2
          have hzn : (t1.extract d2 t1.size).size ≤ 1048576 := by simp; omega
          have hd2' : (d2 : Int) ≤ (t1.size : Int) := by omega
          clear hb1 Hds2 HTW HUW HbW Hit HS hwt
          by_cases heq : r2 = r
          · have heq' : ((r2 : Int) == (r : Int)) = true := beq_iff_eq.2 (by omega)
            clear heq
            go_wp2
            go_roundw
            case rel => exact ⟨pos + d, t1.extract d2 t1.size, rfl, unhide Hit1, unhide Hbw1, hzn, unhide Hnext⟩
            case measure =>
              simp only [World.iterPos, unhide Hit1, unhide Hit0]
              omega
          · have heq' : ((r2 : Int) == (r : Int)) = false := beq_eq_false_iff_ne.2 (by omega)
            by_cases hsw0 : r2 < r
            · have hsw : (r2 : Int) < (r : Int) := by omega
              by_cases h128 : r < 128
              · have h128' : (r : Int) < 128 := by omega
                by_cases hup : 65 ≤ r2 ∧ r2 ≤ 90 ∧ r = r2 + 32
                · have u1 : (65 : Int) ≤ (r2 : Int) := by omega
                  have u2 : (r2 : Int) ≤ 90 := by omega
                  have u3 : ((r : Int) == (r2 : Int) + 97 - 65) = true := beq_iff_eq.2 (by omega)
                  clear hup
                  go_wp2
                  go_roundw
                  case rel => exact ⟨pos + d, t1.extract d2 t1.size, rfl, unhide Hit1, unhide Hbw1, hzn, unhide Hnext⟩
                  case measure =>
                    simp only [World.iterPos, unhide Hit1, unhide Hit0]
                    omega
                · have Hno : Hid (¬ Same s t) := fun h => by
                    rcases (unhide Hru) h with e | ⟨-, -, e⟩
                    · exact heq e.symm
                    · exact lowr_no (by omega) e
                  by_cases u1 : 65 ≤ r2
                  · by_cases u2 : r2 ≤ 90
                    · have u1' : (65 : Int) ≤ (r2 : Int) := by omega
                      have u2' : (r2 : Int) ≤ 90 := by omega
                      have u3 : ((r : Int) == (r2 : Int) + 97 - 65) = false := beq_eq_false_iff_ne.2 (by omega)
                      clear hup
                      go_wp2
                      simp only [Exit.jump]
                      go_ret
                      exact ⟨⟨false, rfl, fun h => absurd h (unhide Hno), fun _ => rfl⟩, unhide Hbw1⟩
                    · have u1' : (65 : Int) ≤ (r2 : Int) := by omega
                      have u2' : ¬ (r2 : Int) ≤ 90 := by omega
                      clear hup
                      go_wp2
                      simp only [Exit.jump]
                      go_ret
                      exact ⟨⟨false, rfl, fun h => absurd h (unhide Hno), fun _ => rfl⟩, unhide Hbw1⟩
                  · have u1' : ¬ (65 : Int) ≤ (r2 : Int) := by omega
                    clear hup
                    go_wp2
                    simp only [Exit.jump]
                    go_ret
                    exact ⟨⟨false, rfl, fun h => absurd h (unhide Hno), fun _ => rfl⟩, unhide Hbw1⟩
              · have h128' : ¬ (r : Int) < 128 := by omega
                have Hno : Hid (¬ Same s t) := fun h => by
                  rcases (unhide Hru) h with e | ⟨a, b, e⟩
                  · exact heq e.symm
                  · omega
                have hle : r2 ≤ 1114111 := by omega
                go_wp2_with fail
                refine (simpleFold_any r2 hle w1 (unhide HT1)).mono ?_
                rintro e w2 ⟨rfl, q1, rfl⟩
                obtain ⟨K, hK⟩ := it_back r2 hle
                have HK := hide hK
                clear hK
                go_wp2_with fail
                go_loopg [13] K (fun g s13 wx => ∃ (j q : Nat), s13 = .int .i32 ((it (j + 1) r2 : Nat) : Int) ∧ wx = w1.drewN q ∧ j + g = K)
                case atStart => exact ⟨0, q1, rfl, rfl, by omega⟩
                case round =>
                  obtain ⟨j, q, rfl, rfl, hjg⟩ := hrel
                  obtain ⟨f, hf⟩ : ∃ f, it (j + 1) r2 = f := ⟨_, rfl⟩
                  have hfle : f ≤ 1114111 := by rw [← hf]; exact it_le r2 hle _
                  have Hstep : Hid (it (j + 1 + 1) r2 = sf f) := by show sf (it (j + 1) r2) = sf f; rw [hf]
                  by_cases hgo : f ≠ r2 ∧ f < r
                  · have g1 : ((f : Int) != (r2 : Int)) = true := by simp; omega
                    have g2 : (f : Int) < (r : Int) := by omega
                    obtain ⟨g', rfl⟩ : ∃ g', gk = g' + 1 := by
                      cases gk with
                      | zero => exact absurd (hf.symm.trans (by rw [show j = K by omega]; exact unhide HK)) hgo.1
                      | succ g' => exact ⟨g', rfl⟩
                    rw [hf]
                    clear hf hgo
                    go_wp2_with fail
                    refine (simpleFold_any f hfle _ ((unhide HT1).drewN q)).mono ?_
                    rintro e w3 ⟨rfl, q2, rfl⟩
                    go_wp2
                    go_roundg g'
                    case measure => omega
                    case rel => exact ⟨j + 1, q + q2, by rw [unhide Hstep], rfl, by omega⟩
                  · rw [hf]
                    clear hf Hstep HK
                    by_cases g0 : f = r2
                    · have g1 : ((f : Int) != (r2 : Int)) = false := by simp [g0]
                      have g3 : ((f : Int) == (r : Int)) = false := beq_eq_false_iff_ne.2 (by omega)
                      clear hgo g0
                      go_wp2
                      simp only [Exit.jump]
                      go_ret
                      exact ⟨⟨false, rfl, fun h => absurd h (unhide Hno), fun _ => rfl⟩, ⟨(unhide Hbw1).os, (unhide Hbw1).tape, (unhide Hbw1).output, (unhide Hbw1).size, (unhide Hbw1).block⟩⟩
                    · have g1 : ((f : Int) != (r2 : Int)) = true := by simp; omega
                      have g2 : ¬ (f : Int) < (r : Int) := by omega
                      by_cases g4 : f = r
                      · have g3 : ((f : Int) == (r : Int)) = true := beq_iff_eq.2 (by omega)
                        clear hgo g0 g4
                        go_wp2
                        go_roundw
                        case rel => exact ⟨pos + d, t1.extract d2 t1.size, rfl, (by exact unhide Hit1), ⟨(unhide Hbw1).os, (unhide Hbw1).tape, (unhide Hbw1).output, (unhide Hbw1).size, (unhide Hbw1).block⟩, hzn, unhide Hnext⟩
                        case measure =>
                          simp only [World.iterPos, World.heap_drewN, unhide Hit1, unhide Hit0]
                          omega
                      · have g3 : ((f : Int) == (r : Int)) = false := beq_eq_false_iff_ne.2 (by omega)
                        clear hgo g0 g4
                        go_wp2
                        simp only [Exit.jump]
                        go_ret
                        exact ⟨⟨false, rfl, fun h => absurd h (unhide Hno), fun _ => rfl⟩, ⟨(unhide Hbw1).os, (unhide Hbw1).tape, (unhide Hbw1).output, (unhide Hbw1).size, (unhide Hbw1).block⟩⟩
            · have hsw : ¬ (r2 : Int) < (r : Int) := by omega
              by_cases h128 : r2 < 128
              · have h128' : (r2 : Int) < 128 := by omega
                by_cases hup : 65 ≤ r ∧ r ≤ 90 ∧ r2 = r + 32
                · have u1 : (65 : Int) ≤ (r : Int) := by omega
                  have u2 : (r : Int) ≤ 90 := by omega
                  have u3 : ((r2 : Int) == (r : Int) + 97 - 65) = true := beq_iff_eq.2 (by omega)
                  clear hup
                  go_wp2
                  go_roundw
                  case rel => exact ⟨pos + d, t1.extract d2 t1.size, rfl, unhide Hit1, unhide Hbw1, hzn, unhide Hnext⟩
                  case measure =>
                    simp only [World.iterPos, unhide Hit1, unhide Hit0]
                    omega
                · have Hno : Hid (¬ Same s t) := fun h => by
                    rcases (unhide Hru) h with e | ⟨-, -, e⟩
                    · exact heq e.symm
                    · exact lowr_no (by omega) e
                  by_cases u1 : 65 ≤ r
                  · by_cases u2 : r ≤ 90
                    · have u1' : (65 : Int) ≤ (r : Int) := by omega
                      have u2' : (r : Int) ≤ 90 := by omega
                      have u3 : ((r2 : Int) == (r : Int) + 97 - 65) = false := beq_eq_false_iff_ne.2 (by omega)
                      clear hup
                      go_wp2
                      simp only [Exit.jump]
                      go_ret
                      exact ⟨⟨false, rfl, fun h => absurd h (unhide Hno), fun _ => rfl⟩, unhide Hbw1⟩
                    · have u1' : (65 : Int) ≤ (r : Int) := by omega
                      have u2' : ¬ (r : Int) ≤ 90 := by omega
                      clear hup
                      go_wp2
                      simp only [Exit.jump]
                      go_ret
                      exact ⟨⟨false, rfl, fun h => absurd h (unhide Hno), fun _ => rfl⟩, unhide Hbw1⟩
                  · have u1' : ¬ (65 : Int) ≤ (r : Int) := by omega
                    clear hup
                    go_wp2
                    simp only [Exit.jump]
                    go_ret
                    exact ⟨⟨false, rfl, fun h => absurd h (unhide Hno), fun _ => rfl⟩, unhide Hbw1⟩
              · have h128' : ¬ (r2 : Int) < 128 := by omega
                have Hno : Hid (¬ Same s t) := fun h => by
                  rcases (unhide Hru) h with e | ⟨a, b, e⟩
                  · exact heq e.symm
                  · omega
                have hle : r ≤ 1114111 := by omega
                go_wp2_with fail
                refine (simpleFold_any r hle w1 (unhide HT1)).mono ?_
                rintro e w2 ⟨rfl, q1, rfl⟩
                obtain ⟨K, hK⟩ := it_back r hle
                have HK := hide hK
                clear hK
                go_wp2_with fail
                go_loopg [13] K (fun g s13 wx => ∃ (j q : Nat), s13 = .int .i32 ((it (j + 1) r : Nat) : Int) ∧ wx = w1.drewN q ∧ j + g = K)
                case atStart => exact ⟨0, q1, rfl, rfl, by omega⟩
                case round =>
                  obtain ⟨j, q, rfl, rfl, hjg⟩ := hrel
                  obtain ⟨f, hf⟩ : ∃ f, it (j + 1) r = f := ⟨_, rfl⟩
                  have hfle : f ≤ 1114111 := by rw [← hf]; exact it_le r hle _
                  have Hstep : Hid (it (j + 1 + 1) r = sf f) := by show sf (it (j + 1) r) = sf f; rw [hf]
                  by_cases hgo : f ≠ r ∧ f < r2
                  · have g1 : ((f : Int) != (r : Int)) = true := by simp; omega
                    have g2 : (f : Int) < (r2 : Int) := by omega
                    obtain ⟨g', rfl⟩ : ∃ g', gk = g' + 1 := by
                      cases gk with
                      | zero => exact absurd (hf.symm.trans (by rw [show j = K by omega]; exact unhide HK)) hgo.1
                      | succ g' => exact ⟨g', rfl⟩
                    rw [hf]
                    clear hf hgo
                    go_wp2_with fail
                    refine (simpleFold_any f hfle _ ((unhide HT1).drewN q)).mono ?_
                    rintro e w3 ⟨rfl, q2, rfl⟩
                    go_wp2
                    go_roundg g'
                    case measure => omega
                    case rel => exact ⟨j + 1, q + q2, by rw [unhide Hstep], rfl, by omega⟩
                  · rw [hf]
                    clear hf Hstep HK
                    by_cases g0 : f = r
                    · have g1 : ((f : Int) != (r : Int)) = false := by simp [g0]
                      have g3 : ((f : Int) == (r2 : Int)) = false := beq_eq_false_iff_ne.2 (by omega)
                      clear hgo g0
                      go_wp2
                      simp only [Exit.jump]
                      go_ret
                      exact ⟨⟨false, rfl, fun h => absurd h (unhide Hno), fun _ => rfl⟩, ⟨(unhide Hbw1).os, (unhide Hbw1).tape, (unhide Hbw1).output, (unhide Hbw1).size, (unhide Hbw1).block⟩⟩
                    · have g1 : ((f : Int) != (r : Int)) = true := by simp; omega
                      have g2 : ¬ (f : Int) < (r2 : Int) := by omega
                      by_cases g4 : f = r2
                      · have g3 : ((f : Int) == (r2 : Int)) = true := beq_iff_eq.2 (by omega)
                        clear hgo g0 g4
                        go_wp2
                        go_roundw
                        case rel => exact ⟨pos + d, t1.extract d2 t1.size, rfl, (by exact unhide Hit1), ⟨(unhide Hbw1).os, (unhide Hbw1).tape, (unhide Hbw1).output, (unhide Hbw1).size, (unhide Hbw1).block⟩, hzn, unhide Hnext⟩
                        case measure =>
                          simp only [World.iterPos, World.heap_drewN, unhide Hit1, unhide Hit0]
                          omega
                      · have g3 : ((f : Int) == (r2 : Int)) = false := beq_eq_false_iff_ne.2 (by omega)
                        clear hgo g0 g4
                        go_wp2
                        simp only [Exit.jump]
                        go_ret
                        exact ⟨⟨false, rfl, fun h => absurd h (unhide Hno), fun _ => rfl⟩, ⟨(unhide Hbw1).os, (unhide Hbw1).tape, (unhide Hbw1).output, (unhide Hbw1).size, (unhide Hbw1).block⟩⟩
      · have hnx : ∀ ty, (Instr.next (.pointer (some ⟨w'.heap.size, 0, none⟩)) true ty).run Tryf.prog wr = _ := fun ty => run_next_end_at wr w'.heap.size S1 pos ty hit hp
        have Hbw := hide hbw
        clear hbw
        have Hd0 : Hid (¬ Diff s t) := fun h => (unhide Hn) ⟨h.1, h.2.1⟩
        by_cases h0 : t1.size = 0
        · have h0' : ((t1.size : Int) == 0) = true := by simp [h0]
          clear h0
          go_wp2
          simp only [Exit.jump]
          go_ret
          exact ⟨⟨true, rfl, fun _ => rfl, fun h => absurd h (unhide Hd0)⟩, unhide Hbw⟩
        · have h0' : ((t1.size : Int) == 0) = false := beq_eq_false_iff_ne.2 (by omega)
          have Hno : Hid (¬ Same s t) := fun h => by have := ((unhide HS) h).2.1; omega
          clear h0
          go_wp2
          simp only [Exit.jump]
          go_ret
          exact ⟨⟨false, rfl, fun h => absurd h (unhide Hno), fun _ => rfl⟩, unhide Hbw⟩
end Go.Proofs.Qxb6604493aFmt
