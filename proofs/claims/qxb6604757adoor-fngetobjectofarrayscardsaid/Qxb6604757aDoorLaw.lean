/-
  The law FnGetObjectOfArrays: it returns true.
-/
import Derived.Test.Qxb6604757aDoorAgrees
namespace Go.Proofs.Qxb6604757aDoor
open Go.RowKit Go.Lib

def TruePost (w : World) (e : Ending) (w' : World) : Prop := e = .returned (.bool true) ∧ Below w.heap.size w w'
theorem TruePost.of_yes {w0 w : World} {e : Ending} {w' : World} (h : YesPost w e w') (hb : Below w0.heap.size w0 w) : TruePost w0 e w' := by
  obtain ⟨he, z, rfl⟩ := h
  exact ⟨he, below_drewN hb z⟩

set_option maxRecDepth 100000 in
set_option maxHeartbeats 4000000 in
theorem law_any (a1 : Option Addr) (n c1 : Nat) (K : Nat → ByteArray) (a2 : Option Addr) (m c2 : Nat) (A : Nat → Option Addr) (L C : Nat → Nat) (S : Nat → Nat → ByteArray) (a3 : Option Addr) (q c3 : Nat) (P : Nat → ByteArray) (w : World)
    (hn : n ≤ 9223372036854775807) (hm : m ≤ 9223372036854775807) (hq : q ≤ 9223372036854775807) (hL : ∀ i, i < m → L i ≤ 9223372036854775807)
    (hK : StrRow w a1 n K) (hN : NestRow w a2 m A L C S) (hP : StrRow w a3 q P) (hE : ErrVar w) :
    Calls Tryd.prog 3 #[.slice a1 n c1, .slice a2 m c2, .slice a3 q c3] w fun e w' => TruePost w e w' := by
  have HK := hide hK
  have HN := hide hN
  have HP := hide hP
  have HL := hide hL
  have HE := hide hE
  clear hK hN hP hL hE
  go_enter Tryd.func3, Tryd.ntmps3
  go_wp2_with fail
  refine (zzBytes_any a1 n c1 K a2 m c2 A L C S a3 q c3 P w hn hm hq (unhide HL) (unhide HK) (unhide HN) (unhide HP)).mono ?_
  rintro e w1 ⟨⟨r, rfl, hr⟩, rfl⟩
  cases r with
  | false =>
    clear hr
    go_wp2
    go_ret
    exact ⟨rfl, Below.refl _ _⟩
  | true =>
    obtain ⟨hK20, hN20, hP20⟩ := hr rfl
    have HK20 := hide hK20
    have HN20 := hide hN20
    have HP20 := hide hP20
    have hn20 := hK20.1
    have hm20 := hN20.1
    have hq20 := hP20.1
    clear hr hK20 hN20 hP20 hn hm hq HL
    by_cases h1 : (4096 : Int) < (n : Int)
    · go_wp2
      go_ret
      exact ⟨rfl, Below.refl _ _⟩
    · by_cases h2 : (4096 : Int) < (m : Int)
      · go_wp2
        go_ret
        exact ⟨rfl, Below.refl _ _⟩
      · by_cases h3 : (4096 : Int) < (q : Int)
        · go_wp2
          go_ret
          exact ⟨rfl, Below.refl _ _⟩
        · go_wp2_with fail
          refine (stringsBytes_any a1 n c1 K w1 hn20 (unhide HK)).mono ?_
          rintro e w2 ⟨⟨r1, rfl, hr10, hr11⟩, rfl⟩
          go_wp2_with fail
          refine (nestedBytes_any a2 m c2 A L C S _ hm20 (fun i hi => ((unhide HN20).2 i hi).1) (unhide HN)).mono ?_
          rintro e w3 ⟨⟨r2, rfl, hr20, hr21⟩, rfl⟩
          go_wp2_with fail
          refine (stringsBytes_any a3 q c3 P _ hq20 (unhide HP)).mono ?_
          rintro e w4 ⟨⟨r3, rfl, hr30, hr31⟩, rfl⟩
          by_cases hbig : (1048576 : Int) < r1 + r2 + r3
          · go_wp2
            go_ret
            exact ⟨rfl, Below.refl _ _⟩
          · go_wp2_with fail
            refine (clone_any a1 n c1 K _ hn20 (unhide HK)).mono ?_
            rintro e w5 ⟨b1, d1, rfl, hK5, _, hb5⟩
            have HK5 := hide hK5
            have Hb5 := hide hb5
            have HN5 := hide ((unhide HN).below hb5)
            have HP5 := hide ((unhide HP).below hb5)
            have HE5 := hide ((unhide HE).below hb5)
            clear hK5 hb5 HK HN HP HE hbig
            go_wp2_with fail
            refine (cloneN_any a2 m c2 A L C S _ hm20 (fun i hi => ((unhide HN20).2 i hi).1) (unhide HN5)).mono ?_
            rintro e w6 ⟨b2, d2, A2, C2, rfl, hN6, hb6⟩
            have HN6 := hide hN6
            have HK6 := hide ((unhide HK5).below hb6)
            have HP6 := hide ((unhide HP5).below hb6)
            have HE6 := hide ((unhide HE5).below hb6)
            have Hb6 := hide ((unhide Hb5).trans (hb6.mono (unhide Hb5).size))
            clear hN6 hb6 HK5 HN5 HP5 HE5 Hb5
            go_wp2_with fail
            refine (clone_any a3 q c3 P _ hq20 (unhide HP6)).mono ?_
            rintro e w7 ⟨b3, d3, rfl, hP7, _, hb7⟩
            have HP7 := hide hP7
            have HK7 := hide ((unhide HK6).below hb7)
            have HN7 := hide ((unhide HN6).below hb7)
            have HE7 := hide ((unhide HE6).below hb7)
            have Hb7 := hide ((unhide Hb6).trans (hb7.mono (unhide Hb6).size))
            clear hP7 hb7 HK6 HN6 HP6 HE6 Hb6
            go_wp2_with fail
            refine (obj_any b1 n d1 K b2 m d2 A2 L C2 S b3 q d3 P _ (unhide HK7) (unhide HN7) (unhide HP7) (unhide HK20) (unhide HN20) (unhide HP20) (unhide HE7)).mono ?_
            intro e w8 hO
            obtain ⟨hO, hb8⟩ := hO
            have HP8 := hide ((unhide HP7).below hb8)
            have HK8 := hide ((unhide HK7).below hb8)
            have HN8 := hide ((unhide HN7).below hb8)
            have Hb8 := hide ((unhide Hb7).trans (hb8.mono (unhide Hb7).size))
            clear hb8 HK7 HN7 HP7 HE7 Hb7
            rcases hO with ⟨hq0, rfl⟩ | ⟨hq0, hl, rfl⟩ | ⟨j, hq0, hl, (⟨hq1, ia, ic, rfl, hI⟩ | ⟨hq1, hno, rfl⟩ | ⟨hq1, hcan, hvl, ia, ic, rfl, hI⟩ | ⟨hq1, rfl⟩)⟩
            · have Hq0 := hide hq0
              clear hq0
              go_wp2_with fail
              refine (agrees0 b1 n d1 K b2 m d2 A2 L C2 S b3 q d3 P w8 (unhide HK8) (unhide HN8) (unhide HP8) (unhide HK20) (unhide HN20) (unhide HP20) (unhide Hq0)).mono ?_
              rintro e w9 ⟨rfl, hz⟩
              have HY := hide (TruePost.of_yes (w0 := w4) ⟨rfl, hz⟩ (unhide Hb8))
              clear hz
              go_wp2
              go_ret
              exact unhide HY
            · have Hl := hide (show lastOf K (P 0) (min n m) = none ∨ ∃ j, lastOf K (P 0) (min n m) = some j ∧ (3 ≤ q ∨ (2 ≤ q ∧ ¬ (Canon (P 1).data.toList ∧ val 0 (P 1).data.toList < L j))) from Or.inl hl)
              clear hl
              go_wp2_with fail
              refine (agreesN b1 n d1 K b2 m d2 A2 L C2 S b3 q d3 P w8 (unhide HK8) (unhide HN8) (unhide HP8) (unhide HK20) (unhide HN20) (unhide HP20) hq0 (unhide Hl)).mono ?_
              rintro e w9 ⟨rfl, hz⟩
              have HY := hide (TruePost.of_yes (w0 := w4) ⟨rfl, hz⟩ (unhide Hb8))
              clear hz
              go_wp2
              go_ret
              exact unhide HY
            · have Hq1 := hide hq1
              have Hl := hide hl
              have HI := hide hI
              clear hq1 hl hI
              go_wp2_with fail
              refine (agrees1 b1 n d1 K b2 m d2 A2 L C2 S b3 q d3 P w8 (unhide HK8) (unhide HN8) (unhide HP8) (unhide HK20) (unhide HN20) (unhide HP20) (unhide Hq1) j (unhide Hl) ia ic (unhide HI)).mono ?_
              rintro e w9 ⟨rfl, hz⟩
              have HY := hide (TruePost.of_yes (w0 := w4) ⟨rfl, hz⟩ (unhide Hb8))
              clear hz
              go_wp2
              go_ret
              exact unhide HY
            · have Hl := hide (show lastOf K (P 0) (min n m) = none ∨ ∃ j, lastOf K (P 0) (min n m) = some j ∧ (3 ≤ q ∨ (2 ≤ q ∧ ¬ (Canon (P 1).data.toList ∧ val 0 (P 1).data.toList < L j))) from Or.inr ⟨j, hl, Or.inr ⟨hq1, hno⟩⟩)
              clear hl hno hq1
              go_wp2_with fail
              refine (agreesN b1 n d1 K b2 m d2 A2 L C2 S b3 q d3 P w8 (unhide HK8) (unhide HN8) (unhide HP8) (unhide HK20) (unhide HN20) (unhide HP20) hq0 (unhide Hl)).mono ?_
              rintro e w9 ⟨rfl, hz⟩
              have HY := hide (TruePost.of_yes (w0 := w4) ⟨rfl, hz⟩ (unhide Hb8))
              clear hz
              go_wp2
              go_ret
              exact unhide HY
            · have Hq1 := hide hq1
              have Hl := hide hl
              have HI := hide hI
              have Hcan := hide hcan
              have Hvl := hide hvl
              clear hq1 hl hI hcan hvl
              go_wp2_with fail
              refine (agrees2 b1 n d1 K b2 m d2 A2 L C2 S b3 q d3 P w8 (unhide HK8) (unhide HN8) (unhide HP8) (unhide HK20) (unhide HN20) (unhide HP20) (unhide Hq1) j (unhide Hl) (unhide Hcan) (unhide Hvl) ia ic (unhide HI)).mono ?_
              rintro e w9 ⟨rfl, hz⟩
              have HY := hide (TruePost.of_yes (w0 := w4) ⟨rfl, hz⟩ (unhide Hb8))
              clear hz
              go_wp2
              go_ret
              exact unhide HY
            · have Hl := hide (show lastOf K (P 0) (min n m) = none ∨ ∃ j, lastOf K (P 0) (min n m) = some j ∧ (3 ≤ q ∨ (2 ≤ q ∧ ¬ (Canon (P 1).data.toList ∧ val 0 (P 1).data.toList < L j))) from Or.inr ⟨j, hl, Or.inl hq1⟩)
              clear hl hq1
              go_wp2_with fail
              refine (agreesN b1 n d1 K b2 m d2 A2 L C2 S b3 q d3 P w8 (unhide HK8) (unhide HN8) (unhide HP8) (unhide HK20) (unhide HN20) (unhide HP20) hq0 (unhide Hl)).mono ?_
              rintro e w9 ⟨rfl, hz⟩
              have HY := hide (TruePost.of_yes (w0 := w4) ⟨rfl, hz⟩ (unhide Hb8))
              clear hz
              go_wp2
              go_ret
              exact unhide HY
end Go.Proofs.Qxb6604757aDoor
