/-
  A map from strings to values that the call makes: stores, look-ups, its length.
-/
import Derived.Test.Qxb6604757aDoorClone
import Derived.MapKept
namespace Go.Proofs.Qxb6604757aDoor
open Go.RowKit Go.MapKept

/-- The last of the first k keys that is q. -/
def lastOf (K : Nat → ByteArray) (q : ByteArray) : Nat → Option Nat
  | 0 => none
  | k + 1 => if K k = q then some k else lastOf K q k
theorem lastOf_lt {K : Nat → ByteArray} {q : ByteArray} : ∀ {k j : Nat}, lastOf K q k = some j → j < k ∧ K j = q
  | 0, _, h => by cases h
  | k + 1, j, h => by
    unfold lastOf at h
    split at h
    · cases h
      exact ⟨by omega, by assumption⟩
    · obtain ⟨h1, h2⟩ := lastOf_lt h
      exact ⟨by omega, h2⟩
/-- How many different keys there are among the first k. -/
def many (K : Nat → ByteArray) : Nat → Nat
  | 0 => 0
  | k + 1 => many K k + if lastOf K (K k) k = none then 1 else 0
theorem many_le (K : Nat → ByteArray) : ∀ k, many K k ≤ k
  | 0 => Nat.le_refl _
  | k + 1 => by
    have := many_le K k
    unfold many
    split <;> omega

/-- What the entries are behind k stores. -/
structure Ents (K : Nat → ByteArray) (V : Nat → Value) (k : Nat) (es : Array MapEntry) : Prop where
  one : ∀ (i j : Nat) (x y : MapEntry), es[i]? = some x → es[j]? = some y → x.key = y.key → i = j
  ent : ∀ (i : Nat) (x : MapEntry), es[i]? = some x → ∃ q j, x.key = .string q ∧ lastOf K q k = some j ∧ x.val = V j
  all : ∀ q j, lastOf K q k = some j → ∃ (i : Nat) (x : MapEntry), es[i]? = some x ∧ x.key = .string q
  size : es.size = many K k

theorem Ents.start (K : Nat → ByteArray) (V : Nat → Value) : Ents K V 0 #[] :=
  ⟨fun i j x y h => (by simp at h), fun i x h => (by simp at h), fun q j h => (by cases h), rfl⟩
theorem Ents.keys {K : Nat → ByteArray} {V : Nat → Value} {k : Nat} {es : Array MapEntry} (h : Ents K V k es) : ∀ x ∈ es.toList, IsKey .string x.key := by
  intro x hx
  obtain ⟨i, hi⟩ := List.getElem?_of_mem hx
  obtain ⟨q, j, hq, _⟩ := h.ent i x (by simpa using hi)
  rw [hq]
  trivial

/-- A look-up among the entries. -/
theorem Ents.find {K : Nat → ByteArray} {V : Nat → Value} {k : Nat} {es : Array MapEntry} (h : Ents K V k es) (q : ByteArray) :
    (Instr.findNow .string (.string q) es.toList 0 = some none ∧ lastOf K q k = none ∧ ∀ (i : Nat) (x : MapEntry), es[i]? = some x → x.key ≠ .string q) ∨
      ∃ (i : Nat) (x : MapEntry) (j : Nat), Instr.findNow .string (.string q) es.toList 0 = some (some (i, x.val)) ∧ es[i]? = some x ∧ x.key = .string q ∧ lastOf K q k = some j ∧ x.val = V j := by
  rcases findNow_spec (d := .string) (k := .string q) trivial es.toList 0 h.keys with ⟨h1, h2⟩ | ⟨j, e, h1, h2, h3⟩
  · refine Or.inl ⟨h1, ?_, fun i x hx => h2 x ?_⟩
    · cases hl : lastOf K q k with
      | none => rfl
      | some j =>
        obtain ⟨i, x, hx, hk⟩ := h.all q j hl
        exact absurd hk (h2 x (List.mem_of_getElem? (by simpa using hx)))
    · exact List.mem_of_getElem? (by simpa using hx)
  · have h2' : es[j]? = some e := by simpa using h2
    obtain ⟨q', j', hq, hl, hv⟩ := h.ent j e h2'
    rw [h3] at hq
    injection hq with hq
    subst hq
    exact Or.inr ⟨j, e, j', by rw [h1]; simp, h2', h3, hl, hv⟩

theorem Ents.push {K : Nat → ByteArray} {V : Nat → Value} {k : Nat} {es : Array MapEntry} (h : Ents K V k es) (hn : lastOf K (K k) k = none) (ho : ∀ (i : Nat) (x : MapEntry), es[i]? = some x → x.key ≠ .string (K k)) (c : Nat) :
    Ents K V (k + 1) (es.push { key := .string (K k), val := V k, born := c }) := by
  have last : ∀ q, q ≠ K k → lastOf K q (k + 1) = lastOf K q k := fun q hq => by
    have : ¬ K k = q := fun e => hq e.symm
    simp [lastOf, this]
  have lastk : lastOf K (K k) (k + 1) = some k := by simp [lastOf]
  have get : ∀ (i : Nat) (x : MapEntry), (es.push { key := .string (K k), val := V k, born := c })[i]? = some x → (i = es.size ∧ x = { key := .string (K k), val := V k, born := c }) ∨ es[i]? = some x := by
    intro i x hx
    rw [Array.getElem?_push] at hx
    split at hx
    · rename_i e
      cases hx
      exact Or.inl ⟨e, rfl⟩
    · exact Or.inr hx
  refine ⟨fun i j x y hx hy he => ?_, fun i x hx => ?_, fun q j hq => ?_, ?_⟩
  · rcases get i x hx with ⟨e1, rfl⟩ | hx
    · rcases get j y hy with ⟨e2, rfl⟩ | hy
      · omega
      · exact absurd he.symm (ho j y hy)
    · rcases get j y hy with ⟨e2, rfl⟩ | hy
      · exact absurd he (ho i x hx)
      · exact h.one i j x y hx hy he
  · rcases get i x hx with ⟨e1, rfl⟩ | hx
    · exact ⟨K k, k, rfl, lastk, rfl⟩
    · obtain ⟨q, j, h1, h2, h3⟩ := h.ent i x hx
      refine ⟨q, j, h1, ?_, h3⟩
      rw [last q (fun e => ho i x hx (by rw [h1, e]))]
      exact h2
  · by_cases e : q = K k
    · exact ⟨es.size, { key := .string (K k), val := V k, born := c }, by simp, by rw [e]⟩
    · rw [last q e] at hq
      obtain ⟨i, x, hx, hk⟩ := h.all q j hq
      refine ⟨i, x, ?_, hk⟩
      have := (Array.getElem?_eq_some_iff.1 hx).1
      rw [Array.getElem?_push, if_neg (by omega)]
      exact hx
  · simp [many, hn, h.size]

theorem Ents.put {K : Nat → ByteArray} {V : Nat → Value} {k : Nat} {es : Array MapEntry} (h : Ents K V k es) {i0 : Nat} {x0 : MapEntry} (h0 : es[i0]? = some x0) (hk : x0.key = .string (K k)) {j0 : Nat} (hl : lastOf K (K k) k = some j0) :
    Ents K V (k + 1) (es.modify i0 fun e => { e with key := .string (K k), val := V k }) := by
  have last : ∀ q, q ≠ K k → lastOf K q (k + 1) = lastOf K q k := fun q hq => by
    have : ¬ K k = q := fun e => hq e.symm
    simp [lastOf, this]
  have lastk : lastOf K (K k) (k + 1) = some k := by simp [lastOf]
  have get : ∀ (i : Nat) (x : MapEntry), (es.modify i0 fun e => { e with key := .string (K k), val := V k })[i]? = some x → (i = i0 ∧ x.key = .string (K k) ∧ x.val = V k) ∨ (i ≠ i0 ∧ es[i]? = some x) := by
    intro i x hx
    rw [Array.getElem?_modify] at hx
    split at hx
    · rename_i e
      subst e
      rw [h0] at hx
      cases hx
      exact Or.inl ⟨rfl, rfl, rfl⟩
    · rename_i e
      exact Or.inr ⟨fun e' => e e'.symm, hx⟩
  have key : ∀ (i : Nat) (x : MapEntry), (es.modify i0 fun e => { e with key := .string (K k), val := V k })[i]? = some x → ∃ y : MapEntry, es[i]? = some y ∧ y.key = x.key := by
    intro i x hx
    rcases get i x hx with ⟨rfl, h1, _⟩ | ⟨_, hx⟩
    · exact ⟨x0, h0, by rw [hk, h1]⟩
    · exact ⟨x, hx, rfl⟩
  refine ⟨fun i j x y hx hy he => ?_, fun i x hx => ?_, fun q j hq => ?_, ?_⟩
  · obtain ⟨x', hx', ex⟩ := key i x hx
    obtain ⟨y', hy', ey⟩ := key j y hy
    exact h.one i j x' y' hx' hy' (by rw [ex, ey, he])
  · rcases get i x hx with ⟨_, h1, h2⟩ | ⟨hi, hx⟩
    · exact ⟨K k, k, h1, lastk, h2⟩
    · obtain ⟨q, j, h1, h2, h3⟩ := h.ent i x hx
      refine ⟨q, j, h1, ?_, h3⟩
      rw [last q (fun e => hi (h.one i i0 x x0 hx h0 (by rw [h1, hk, e])))]
      exact h2
  · by_cases e : q = K k
    · refine ⟨i0, { x0 with key := .string (K k), val := V k }, ?_, by rw [e]⟩
      rw [Array.getElem?_modify, if_pos rfl, h0]
      rfl
    · rw [last q e] at hq
      obtain ⟨i, x, hx, hk2⟩ := h.all q j hq
      refine ⟨i, x, ?_, hk2⟩
      have : ¬ i0 = i := by
        rintro rfl
        rw [h0] at hx
        cases hx
        rw [hk] at hk2
        injection hk2 with hk2
        exact e hk2.symm
      rw [Array.getElem?_modify, if_neg this]
      exact hx
  · simp [many, hl, h.size]

/-- The map at block r behind k stores. -/
def MapAt (r : Nat) (K : Nat → ByteArray) (V : Nat → Value) (k : Nat) (w : World) : Prop := ∃ es clock, w.heap[r]? = some (.map es clock) ∧ Ents K V k es
/-- All but block r is as it was. -/
structure But1 (r : Nat) (w w' : World) : Prop where
  os : w'.os = w.os
  tape : w'.tape = w.tape
  output : w'.output = w.output
  size : w'.heap.size = w.heap.size
  block : ∀ j, j ≠ r → w'.heap[j]? = w.heap[j]?
theorem But1.cell {r : Nat} {w w' : World} (h : But1 r w w') {p : Addr} (hp : p.block ≠ r) : w'.cell? p = w.cell? p := World.cell?_of_block (w := w) (h.block p.block hp)
theorem But1.frozen {r : Nat} {w w' : World} (h : But1 r w w') {p : Addr} (hp : p.block ≠ r) : w'.frozen? p = w.frozen? p := World.frozen?_of_block (w := w) (h.block p.block hp)
theorem But1.below {r B : Nat} {w0 w w' : World} (h : But1 r w w') (hb : Below B w0 w) (hr : B ≤ r) : Below B w0 w' :=
  ⟨h.os.trans hb.os, h.tape.trans hb.tape, h.output.trans hb.output, by rw [h.size]; exact hb.size, fun k hk => (h.block k (by omega)).trans (hb.block k hk)⟩

theorem but1_set {w : World} {r : Nat} {o o' : Obj} (hb : w.heap[r]? = some o) : But1 r w { w with heap := w.heap.setIfInBounds r o' } :=
  ⟨rfl, rfl, rfl, by simp, fun j hj => (heap_set (o' := o') hb).2 j hj⟩

theorem MapAt.store {r : Nat} {K : Nat → ByteArray} {V : Nat → Value} {k : Nat} {w : World} (h : MapAt r K V k w) (q : ByteArray) (v : Value) (hq : q = K k) (hv : v = V k) :
    ∃ w', (Instr.mapUpdate 32 (.map (some r)) (.string q) v).run Tryd.prog w = .ok () w' ∧ MapAt r K V (k + 1) w' ∧ But1 r w w' := by
  subst hq hv
  obtain ⟨es, clock, hb, hE⟩ := h
  have hk : IsKey .string (.string (K k)) := trivial
  rcases hE.find (K k) with ⟨h1, h2, h3⟩ | ⟨i, x, j, h1, h2, h3, h4, h5⟩
  · refine ⟨{ w with heap := w.heap.setIfInBounds r (.map (es.push { key := .string (K k), val := V k, born := clock }) (clock + 1)) }, ?_, ⟨_, _, (heap_set hb).1, hE.push h2 h3 clock⟩, but1_set hb⟩
    simp [Instr.mapUpdate, run_underlying Tryd.underlying32, MapKept.run_getObj_map hb, MapKept.run_checkKey Tryd.underlying9 hk, MapKept.run_findKey Tryd.underlying9 h1, MapKept.run_setObj_map _ hb, Result.andThen]
  · refine ⟨{ w with heap := w.heap.setIfInBounds r (.map (es.modify i fun e => { e with key := .string (K k), val := V k }) clock) }, ?_, ⟨_, _, (heap_set hb).1, hE.put h2 h3 h4⟩, but1_set hb⟩
    simp [Instr.mapUpdate, run_underlying Tryd.underlying32, MapKept.run_getObj_map hb, MapKept.run_checkKey Tryd.underlying9 hk, MapKept.run_findKey Tryd.underlying9 h1, h2, h3, MapKept.run_keyThatStays hk, MapKept.run_setObj_map _ hb, Result.andThen]

theorem MapAt.look {r : Nat} {K : Nat → ByteArray} {V : Nat → Value} {k : Nat} {w : World} (h : MapAt r K V k w) (q : ByteArray) :
    (Instr.lookup 32 (.map (some r)) (.string q) true).run Tryd.prog w = .ok (match lastOf K q k with | some j => .tuple #[V j, .bool true] | none => .tuple #[.nilIface, .bool false]) w := by
  obtain ⟨es, clock, hb, hE⟩ := h
  have hk : IsKey .string (.string q) := trivial
  rcases hE.find q with ⟨h1, h2, h3⟩ | ⟨i, x, j, h1, h2, h3, h4, h5⟩
  · rw [h2]
    simp [Instr.lookup, run_underlying Tryd.underlying32, MapKept.run_getObj_map hb, MapKept.run_checkKey Tryd.underlying9 hk, MapKept.run_findKey Tryd.underlying9 h1, Result.andThen]
  · rw [h4]
    simp [Instr.lookup, run_underlying Tryd.underlying32, MapKept.run_getObj_map hb, MapKept.run_checkKey Tryd.underlying9 hk, MapKept.run_findKey Tryd.underlying9 h1, h5, Result.andThen]

theorem MapAt.len {r : Nat} {K : Nat → ByteArray} {V : Nat → Value} {k : Nat} {w : World} (h : MapAt r K V k w) (t : TypeId) :
    (Builtin.len_ #[32] t #[.map (some r)]).run Tryd.prog w = .ok (.int .i64 (many K k : Nat)) w := by
  obtain ⟨es, clock, hb, hE⟩ := h
  simp [Builtin.len_, run_underlying Tryd.underlying32, MapKept.run_getObj_map hb, Result.andThen, hE.size, goInt]

theorem make32 (n : Int) (w : World) : (Instr.makeMap 32 (some (.int .i64 n))).run Tryd.prog w = .ok (.map (some w.heap.size)) (w.alloc (.map #[] 0)) := by
  simp [Instr.makeMap, run_underlying Tryd.underlying32, Result.andThen, asInt]
  rfl
theorem mapAt_start (w : World) (K : Nat → ByteArray) (V : Nat → Value) : MapAt w.heap.size K V 0 (w.alloc (.map #[] 0)) := ⟨#[], 0, (MapKept.heap_alloc w _).1, Ents.start K V⟩
end Go.Proofs.Qxb6604757aDoor
