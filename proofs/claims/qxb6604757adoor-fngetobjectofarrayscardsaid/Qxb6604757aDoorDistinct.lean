/-
  zzDistinct: it counts the keys that no later one equals: as many as there are different keys.
-/
import Derived.Test.Qxb6604757aDoorMaps
import Derived.BigQuiet
import Derived.Deep.QuietTactic
namespace Go.Proofs.Qxb6604757aDoor
open Go.RowKit

/-- No key behind i, up to m, is the same. -/
def lone (K : Nat → ByteArray) (m i : Nat) : Bool := decide (∀ j, j < m → i < j → K j ≠ K i)
/-- How many of the first k are so. -/
def lones (K : Nat → ByteArray) (m : Nat) : Nat → Nat
  | 0 => 0
  | k + 1 => lones K m k + if lone K m k = true then 1 else 0
/-- .. and are q. -/
def lonesQ (K : Nat → ByteArray) (q : ByteArray) (m : Nat) : Nat → Nat
  | 0 => 0
  | k + 1 => lonesQ K q m k + if lone K m k = true ∧ K k = q then 1 else 0

theorem lone_iff (K : Nat → ByteArray) (m i : Nat) : lone K m i = true ↔ ∀ j, j < m → i < j → K j ≠ K i := by simp [lone]
theorem lone_succ (K : Nat → ByteArray) {m i : Nat} (hi : i < m) : lone K (m + 1) i = true ↔ lone K m i = true ∧ K m ≠ K i := by
  rw [lone_iff, lone_iff]
  constructor
  · exact fun h => ⟨fun j hj => h j (by omega), h m (by omega) hi⟩
  · rintro ⟨h1, h2⟩ j hj hij
    by_cases e : j = m
    · subst e; exact h2
    · exact h1 j (by omega) hij
theorem lone_last (K : Nat → ByteArray) (m : Nat) : lone K (m + 1) m = true := by
  rw [lone_iff]
  intro j hj hij
  omega

theorem lones_split (K : Nat → ByteArray) (m : Nat) : ∀ k, k ≤ m → lones K (m + 1) k + lonesQ K (K m) m k = lones K m k
  | 0, _ => rfl
  | k + 1, hk => by
    have ih := lones_split K m k (by omega)
    have hs := lone_succ K (m := m) (i := k) (by omega)
    simp only [lones, lonesQ]
    by_cases h1 : lone K m k = true
    · by_cases h2 : K k = K m
      · have h3 : ¬ lone K (m + 1) k = true := fun h => (hs.1 h).2 h2.symm
        rw [if_neg h3, if_pos ⟨h1, h2⟩, if_pos h1]
        omega
      · have h3 : lone K (m + 1) k = true := hs.2 ⟨h1, fun e => h2 e.symm⟩
        rw [if_pos h3, if_neg (fun h => h2 h.2), if_pos h1]
        omega
    · have h3 : ¬ lone K (m + 1) k = true := fun h => h1 (hs.1 h).1
      rw [if_neg h3, if_neg (fun h => h1 h.1), if_neg h1]
      omega

theorem lonesQ_eq (K : Nat → ByteArray) (q : ByteArray) (m : Nat) (hm : K m = q) : ∀ k, k ≤ m → lonesQ K q (m + 1) k = 0
  | 0, _ => rfl
  | k + 1, hk => by
    have ih := lonesQ_eq K q m hm k (by omega)
    simp only [lonesQ]
    rw [ih, if_neg]
    rintro ⟨h1, h2⟩
    exact ((lone_succ K (by omega)).1 h1).2 (by rw [hm, h2])
theorem lonesQ_ne (K : Nat → ByteArray) (q : ByteArray) (m : Nat) (hm : ¬ K m = q) : ∀ k, k ≤ m → lonesQ K q (m + 1) k = lonesQ K q m k
  | 0, _ => rfl
  | k + 1, hk => by
    have ih := lonesQ_ne K q m hm k (by omega)
    have hs := lone_succ K (m := m) (i := k) (by omega)
    simp only [lonesQ]
    rw [ih]
    by_cases h2 : K k = q
    · by_cases h1 : lone K m k = true
      · rw [if_pos ⟨hs.2 ⟨h1, fun e => hm (by rw [e, h2])⟩, h2⟩, if_pos ⟨h1, h2⟩]
      · rw [if_neg (fun h => h1 (hs.1 h.1).1), if_neg (fun h => h1 h.1)]
    · rw [if_neg (fun h => h2 h.2), if_neg (fun h => h2 h.2)]
theorem lonesQ_last (K : Nat → ByteArray) (q : ByteArray) : ∀ m, lonesQ K q m m = if lastOf K q m = none then 0 else 1
  | 0 => rfl
  | m + 1 => by
    have ih := lonesQ_last K q m
    simp only [lonesQ]
    by_cases h : K m = q
    · have e : lastOf K q (m + 1) = some m := by simp [lastOf, h]
      rw [lonesQ_eq K q m h m (Nat.le_refl _), if_pos ⟨lone_last K m, h⟩, if_neg (show ¬ lastOf K q (m + 1) = none by rw [e]; simp)]
    · have e : lastOf K q (m + 1) = lastOf K q m := by simp [lastOf, h]
      rw [lonesQ_ne K q m h m (Nat.le_refl _), if_neg (fun x => h x.2), ih]
      by_cases hn : lastOf K q m = none
      · rw [if_pos hn, if_pos (show lastOf K q (m + 1) = none by rw [e]; exact hn)]
      · rw [if_neg hn, if_neg (show ¬ lastOf K q (m + 1) = none by rw [e]; exact hn)]
theorem lones_many (K : Nat → ByteArray) : ∀ m, lones K m m = many K m
  | 0 => rfl
  | m + 1 => by
    have ih := lones_many K m
    have h1 := lones_split K m m (Nat.le_refl _)
    have h2 := lonesQ_last K (K m) m
    simp only [lones, many]
    rw [if_pos (lone_last K m)]
    rw [h2, ih] at h1
    split at h1
    · rename_i e
      rw [if_pos e]
      omega
    · rename_i e
      rw [if_neg e]
      omega

theorem lones_le (K : Nat → ByteArray) (m : Nat) : ∀ k, lones K m k ≤ k
  | 0 => Nat.le_refl _
  | k + 1 => by
    have := lones_le K m k
    simp only [lones]
    split <;> omega

theorem bytes_beq_eq {s t : ByteArray} (h : s = t) : (s.toList == t.toList) = true := by subst h; simp
theorem bytes_beq_ne {s t : ByteArray} (h : ¬ s = t) : (s.toList == t.toList) = false := by
  rw [beq_eq_false_iff_ne, ByteArray.toList_eq, ByteArray.toList_eq]
  intro e
  apply h
  cases s; cases t
  simp at e
  rw [e]

def DistPost (K : Nat → ByteArray) (m : Nat) (w : World) (e : Ending) (w' : World) : Prop := e = .returned (.int .i64 (many K m : Nat)) ∧ ∃ z, w' = w.drewN z

set_option maxRecDepth 100000 in
set_option maxHeartbeats 2000000 in
theorem distinct_any (a : Option Addr) (n c m : Nat) (K : Nat → ByteArray) (w : World) (hn : n ≤ 1048576) (hmn : m ≤ n) (hK : StrRow w a n K) :
    Calls Tryd.prog 12 #[.slice a n c, .int .i64 (m : Int)] w fun e w' => DistPost K m w e w' := by
  have HK := hide hK
  clear hK
  go_enter Tryd.func12, Tryd.ntmps12
  go_wp2_with fail
  go_loopw [5, 6, 7, 8] (fun t i _ _ wr => ∃ k : Nat, k ≤ m ∧ i = .int .i64 k ∧ t = .int .i64 (lones K m k : Nat) ∧ ∃ z, wr = w.drewN z) (fun _ i _ _ _ => m - (intOf i).toNat)
  case atStart => exact ⟨0, Nat.zero_le _, rfl, rfl, 0, rfl⟩
  case round =>
    obtain ⟨k, hk, rfl, rfl, hw⟩ := hrel
    have HW := hide hw
    clear hw
    have hle := lones_le K m k
    have HL : Hid (∀ v, lones K m k = v → lone K m k = true → lones K m (k + 1) = v + 1) := fun v hv h => by simp only [lones]; rw [if_pos h, hv]
    have HL2 : Hid (∀ v, lones K m k = v → ¬ lone K m k = true → lones K m (k + 1) = v) := fun v hv h => by simp only [lones]; rw [if_neg h, hv]; rfl
    obtain ⟨v, hv⟩ : ∃ v, lones K m k = v := ⟨_, rfl⟩
    rw [hv] at hle
    have HL' : Hid (lone K m k = true → lones K m (k + 1) = v + 1) := (unhide HL) v hv
    have HL2' : Hid (¬ lone K m k = true → lones K m (k + 1) = v) := (unhide HL2) v hv
    have HVm : Hid (lones K m k = v) := hv
    rw [hv]
    clear HL HL2 hv
    by_cases hlt : k < m
    · have hlt' : (k : Int) < (m : Int) := by omega
      obtain ⟨wo, hwo⟩ : ∃ x, x = wr := ⟨_, rfl⟩
      subst hwo
      go_wp2_with fail
      go_loopw [7, 8] (fun d i wr => ∃ h : Nat, k < h ∧ h ≤ m ∧ i = .int .i64 h ∧ d = .bool false ∧ (∀ j, k < j → j < h → K j ≠ K k) ∧ ∃ z, wr = wo.drewN z) (fun _ i _ => m - (intOf i).toNat)
      case atStart => exact ⟨k + 1, by omega, by omega, by go_num, rfl, (fun j h1 h2 => by omega), 0, rfl⟩
      case round =>
        obtain ⟨h, hkh, hhm, rfl, rfl, hall, hw2⟩ := hrel
        have HA := hide hall
        have HW2 := hide hw2
        clear hall hw2
        by_cases hlt2 : h < m
        · have hlt2' : (h : Int) < (m : Int) := by omega
          have hhn' : (h : Int) < (n : Int) := by omega
          have hkn' : (k : Int) < (n : Int) := by omega
          have hhn : h < n := by omega
          have hkn : k < n := by omega
          obtain ⟨b, off, rfl, hc1⟩ := (unhide HK) h hhn
          have hc2 : w.cell? ⟨b, off + k, none⟩ = some (.string (K k)) := by
            obtain ⟨b2, off2, ha, hc⟩ := (unhide HK) k hkn
            injection ha with ha
            injection ha with e1 e2
            subst e1 e2
            exact hc
          have d1 : wr.cell? ⟨b, off + h, none⟩ = some (.string (K h)) := by
            obtain ⟨z, e1⟩ := unhide HW
            obtain ⟨z2, e2⟩ := unhide HW2
            rw [e2, e1]
            exact hc1
          have d2 : wr.cell? ⟨b, off + k, none⟩ = some (.string (K k)) := by
            obtain ⟨z, e1⟩ := unhide HW
            obtain ⟨z2, e2⟩ := unhide HW2
            rw [e2, e1]
            exact hc2
          clear hc1 hc2
          by_cases heq : K h = K k
          · have hb := bytes_beq_eq heq
            have HNl : Hid (¬ lone K m k = true) := fun hl => (lone_iff K m k).1 hl h hlt2 hkh heq
            have Hend := hide ((unhide HL2') (unhide HNl))
            generalize K h = s1 at d1 hb
            generalize K k = s2 at d2 hb
            clear heq
            go_wp2_with fail
            go_quiet (fail)
            clear hb d1 d2
            go_wp2
            go_roundw
            case rel =>
              refine ⟨k + 1, by omega, by go_num, by rw [unhide Hend], ?_⟩
              obtain ⟨z, e1⟩ := unhide HW
              obtain ⟨z2, e2⟩ := unhide HW2
              rw [e2, e1]
              exact ⟨_, by rw [World.drewN_drewN, World.drewN_drewN]⟩
            case measure => simp [intOf]; omega
          · have hb := bytes_beq_ne heq
            have Hne := hide heq
            obtain ⟨s1, hs1⟩ : ∃ x, K h = x := ⟨_, rfl⟩
            obtain ⟨s2, hs2⟩ : ∃ x, K k = x := ⟨_, rfl⟩
            rw [hs1] at d1 hb
            rw [hs2] at d2 hb
            clear heq hs1 hs2
            go_wp2_with fail
            go_quiet (fail)
            clear hb d1 d2
            go_wp2
            go_roundw
            case rel =>
              refine ⟨h + 1, by omega, by omega, by go_num, rfl, fun j h1 h2 => ?_, ?_⟩
              · by_cases e : j = h
                · subst e; exact unhide Hne
                · exact unhide HA j h1 (by omega)
              · obtain ⟨z2, e2⟩ := unhide HW2
                rw [e2]
                exact ⟨_, by rw [World.drewN_drewN]⟩
            case measure => simp [intOf]; omega
        · have hlt2' : ¬ (h : Int) < (m : Int) := by omega
          have HNl : Hid (lone K m k = true) := (lone_iff K m k).2 (fun j hj hkj => unhide HA j hkj (by omega))
          have Hend := hide ((unhide HL') (unhide HNl))
          clear HA
          go_wp2
          go_roundw
          case rel =>
            refine ⟨k + 1, by omega, by go_num, by rw [unhide Hend]; go_num, ?_⟩
            obtain ⟨z, e1⟩ := unhide HW
            obtain ⟨z2, e2⟩ := unhide HW2
            rw [e2, e1]
            exact ⟨_, by rw [World.drewN_drewN]⟩
          case measure => simp [intOf]; omega
    · have hlt' : ¬ (k : Int) < (m : Int) := by omega
      go_wp2
      go_ret
      refine ⟨?_, unhide HW⟩
      have e : k = m := by omega
      have e2 : many K m = v := by rw [← lones_many, ← unhide HVm, e]
      rw [e2]
      rfl
end Go.Proofs.Qxb6604757aDoor
