/-
  parser.quoted, whole.
-/
import Derived.Test.Qxb6002438aDoorQA
import Derived.Test.Qxb6002438aDoorQB
import Derived.Test.Qxb6002438aDoorQC
import Derived.Test.Qxb6002438aDoorQD
namespace Go.Proofs.Qxb6002438aDoor
open Go.RowKit

set_option maxRecDepth 100000 in
theorem qlay_out (t : Array Value) (h : t.size = 114) : t = #[t.getD 0 undef, t.getD 1 undef, t.getD 2 undef, t.getD 3 undef, t.getD 4 undef, t.getD 5 undef, t.getD 6 undef, t.getD 7 undef, t.getD 8 undef, t.getD 9 undef, t.getD 10 undef, t.getD 11 undef, t.getD 12 undef, t.getD 13 undef, t.getD 14 undef, t.getD 15 undef, t.getD 16 undef, t.getD 17 undef, t.getD 18 undef, t.getD 19 undef, t.getD 20 undef, t.getD 21 undef, t.getD 22 undef, t.getD 23 undef, t.getD 24 undef, t.getD 25 undef, t.getD 26 undef, t.getD 27 undef, t.getD 28 undef, t.getD 29 undef, t.getD 30 undef, t.getD 31 undef, t.getD 32 undef, t.getD 33 undef, t.getD 34 undef, t.getD 35 undef, t.getD 36 undef, t.getD 37 undef, t.getD 38 undef, t.getD 39 undef, t.getD 40 undef, t.getD 41 undef, t.getD 42 undef, t.getD 43 undef, t.getD 44 undef, t.getD 45 undef, t.getD 46 undef, t.getD 47 undef, t.getD 48 undef, t.getD 49 undef, t.getD 50 undef, t.getD 51 undef, t.getD 52 undef, t.getD 53 undef, t.getD 54 undef, t.getD 55 undef, t.getD 56 undef, t.getD 57 undef, t.getD 58 undef, t.getD 59 undef, t.getD 60 undef, t.getD 61 undef, t.getD 62 undef, t.getD 63 undef, t.getD 64 undef, t.getD 65 undef, t.getD 66 undef, t.getD 67 undef, t.getD 68 undef, t.getD 69 undef, t.getD 70 undef, t.getD 71 undef, t.getD 72 undef, t.getD 73 undef, t.getD 74 undef, t.getD 75 undef, t.getD 76 undef, t.getD 77 undef, t.getD 78 undef, t.getD 79 undef, t.getD 80 undef, t.getD 81 undef, t.getD 82 undef, t.getD 83 undef, t.getD 84 undef, t.getD 85 undef, t.getD 86 undef, t.getD 87 undef, t.getD 88 undef, t.getD 89 undef, t.getD 90 undef, t.getD 91 undef, t.getD 92 undef, t.getD 93 undef, t.getD 94 undef, t.getD 95 undef, t.getD 96 undef, t.getD 97 undef, t.getD 98 undef, t.getD 99 undef, t.getD 100 undef, t.getD 101 undef, t.getD 102 undef, t.getD 103 undef, t.getD 104 undef, t.getD 105 undef, t.getD 106 undef, t.getD 107 undef, t.getD 108 undef, t.getD 109 undef, t.getD 110 undef, t.getD 111 undef, t.getD 112 undef, t.getD 113 undef] := by
  have e : t = ((List.range 114).map fun n => t.getD n undef).toArray := by
    apply Array.ext
    · simp [h]
    · intro j h1 h2
      simp [Array.getD, h1]
  exact e
set_option maxRecDepth 100000 in
theorem qframe_of {p lv iv bv : Value} {a : Act} (h : QFrm p lv iv bv a) : ∃ u : Nat → Value, a = ⟨#[p, u 1, u 2, u 3, lv, iv, bv, u 7, u 8, u 9, u 10, u 11, u 12, u 13, u 14, u 15, u 16, u 17, u 18, u 19, u 20, u 21, u 22, u 23, u 24, u 25, u 26, u 27, u 28, u 29, u 30, u 31, u 32, u 33, u 34, u 35, u 36, u 37, u 38, u 39, u 40, u 41, u 42, u 43, u 44, u 45, u 46, u 47, u 48, u 49, u 50, u 51, u 52, u 53, u 54, u 55, u 56, u 57, u 58, u 59, u 60, u 61, u 62, u 63, u 64, u 65, u 66, u 67, u 68, u 69, u 70, u 71, u 72, u 73, u 74, u 75, u 76, u 77, u 78, u 79, u 80, u 81, u 82, u 83, u 84, u 85, u 86, u 87, u 88, u 89, u 90, u 91, u 92, u 93, u 94, u 95, u 96, u 97, u 98, u 99, u 100, u 101, u 102, u 103, u 104, u 105, u 106, u 107, u 108, u 109, u 110, u 111, u 112, u 113], []⟩ := by
  obtain ⟨t, d⟩ := a
  obtain ⟨hd, hz, h0, h4, h5, h6⟩ := h
  have e := qlay_out t hz
  have hd' : d = [] := hd
  subst hd'
  refine ⟨fun n => t.getD n undef, congrArg (fun x => Act.mk x []) ?_⟩
  refine e.trans ?_
  have h0' : t.getD 0 undef = p := h0
  have h4' : t.getD 4 undef = lv := h4
  have h5' : t.getD 5 undef = iv := h5
  have h6' : t.getD 6 undef = bv := h6
  rw [h0', h4', h5', h6']

set_option maxRecDepth 100000 in
set_option maxHeartbeats 4000000 in
theorem quoted_any (s : ByteArray) (hs : s.size ≤ 1048576) (g : Nat) : Qc s g := by
  intro i line w hi hline hp
  have HP := hide hp
  have c1 := hp.c1
  have c2 := hp.c2
  have f1 := hp.fz 1
  have hg := hp.lt
  clear hp
  go_enter Tryd.func30, Tryd.ntmps30
  go_wp2_with fail
  go_quiet (fail)
  have HPd := hide ((unhide HP).drewN nq)
  have HKd := hide ((Kept.refl w.heap.size (fun j => j = g) w).drewN nq)
  have hsz : (w.drewN nq).heap.size = w.heap.size := rfl
  clear c1 c2 f1
  generalize w.drewN nq = wd at HPd HKd hsz ⊢
  have c1 := (unhide HPd).c1
  have f1 := (unhide HPd).fz 1
  have hgd := (unhide HPd).lt
  go_wp2_with fail
  refine wp_loop (QI s g i line w) (fun _ wr => left s g wr) ?_ ?_
  · refine ⟨⟨rfl, rfl, rfl, rfl, rfl, rfl⟩, i + 1, 0, by omega, by omega, by omega, ?_⟩
    have h := IsB.fresh (wd.setCell ⟨g, 1, none⟩ (.int .i64 ((i : Int) + 1)))
    rw [World.size_setCell, hsz] at h
    obtain ⟨l, hl, hb⟩ := h
    exact ⟨hg, ((unhide HPd).pos (i + 1)).alloc _, ((unhide HKd).setCell ⟨g, 1, none⟩ (Or.inl rfl) _).alloc (by rw [World.size_setCell, hsz]; exact Nat.le_refl _) _, ⟨l, by omega, hb⟩, rfl⟩
  rintro a wr ⟨hf, k, nl, hik, hk, hnl, hS⟩
  obtain ⟨u, rfl⟩ := qframe_of hf
  have HQR : Hid (QQRet s g i line w (bodyPost Tryd.prog Tryd.f30 fun e w' => QPost s g i line w e w')) := by
    intro a w' hd hN
    exact ⟨hd, _, by simp [results, Tryd.results30, go_sem], hN⟩
  rcases index_at s k 39 with ⟨hx, hno⟩ | ⟨j, hx, hj, hb, hno⟩
  · exact quo_none s hs g i line k nl w wr u _ (fun a w' hd hN => (unhide HQR) a w' hd hN) hline hik hk hnl (hide hS) (hide hx) (hide (quo_no s k nl hk hno))
  · have hrun := quo_run s k nl j (by omega) hno
    rw [quo_step s (k + j) _ hj, if_pos (show byt s (k + j) = 39 from hb)] at hrun
    by_cases hm : k + j + 1 < s.size
    · by_cases hb2 : byt s (k + j + 1) = 39
      · rw [if_pos ⟨hm, hb2⟩] at hrun
        exact quo_more s hs g i line k nl w wr u _ (fun a w' hd hN => (unhide HQR) a w' hd hN) hline hik hk hnl (hide hS) j _ (hide hx) hj (hide rfl) (count_ext_le s k j) hm hb2 (hide hrun)
      · rw [if_neg (fun h => hb2 h.2)] at hrun
        exact quo_done1 s hs g i line k nl w wr u _ (fun a w' hd hN => (unhide HQR) a w' hd hN) hline hik hk hnl (hide hS) j _ (hide hx) hj (hide rfl) (count_ext_le s k j) hm hb2 (hide hrun)
    · rw [if_neg (fun h => hm h.1)] at hrun
      exact quo_done2 s hs g i line k nl w wr u _ (fun a w' hd hN => (unhide HQR) a w' hd hN) hline hik hk hnl (hide hS) j _ (hide hx) hj (hide rfl) (count_ext_le s k j) hm (hide hrun)
end Go.Proofs.Qxb6002438aDoor
