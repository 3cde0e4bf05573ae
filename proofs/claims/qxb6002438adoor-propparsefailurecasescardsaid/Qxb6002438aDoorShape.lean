/-
  The parser's block, an open block, and what a reading leaves alone.
-/
import Derived.Test.Qxb6002438aDoorModel
import Derived.Deep.AppendLies
import Derived.Laws.Rows
namespace Go.Proofs.Qxb6002438aDoor
open Go.RowKit

/-- The parser's cells: the script, the position, the line, no whole block. -/
def pcell (s : ByteArray) (k ln : Nat) : Array Value := #[.string s, .int .i64 (k : Int), .int .i64 (ln : Int), .pointer none]
def PB (g : Nat) (s : ByteArray) (k ln : Nat) (w : World) : Prop := w.heap[g]? = some (.cells (pcell s k ln) 64 (0, 0))
/-- A block of nodes that was opened at line ol. -/
def BB (b ol : Nat) (w : World) : Prop := ∃ x0 x1 x2 x4 x5 x6 : Value, w.heap[b]? = some (.cells #[x0, x1, x2, .int .i64 (ol : Int), x4, x5, x6] 71 (0, 0))
/-- An error at line l, in a block from number B on. -/
def EB (B l : Nat) (v : Value) (w : World) : Prop := ∃ b m, B ≤ b ∧ v = .iface 30 (.pointer (some ⟨b, 0, none⟩)) ∧ w.heap[b]? = some (.cells #[.int .i64 (l : Int), .string m] 33 (0, 0))
/-- Nothing below B has turned but the blocks that ok names. -/
def Kept (B : Nat) (ok : Nat → Prop) (w w' : World) : Prop := w'.os = w.os ∧ w'.tape = w.tape ∧ w'.output = w.output ∧ w.heap.size ≤ w'.heap.size ∧ ∀ k, k < B → ¬ ok k → w'.heap[k]? = w.heap[k]?

theorem Kept.refl (B : Nat) (ok : Nat → Prop) (w : World) : Kept B ok w w := ⟨rfl, rfl, rfl, Nat.le_refl _, fun _ _ _ => rfl⟩
theorem Kept.drewN {B : Nat} {ok : Nat → Prop} {w w' : World} (h : Kept B ok w w') (q : Nat) : Kept B ok w (w'.drewN q) := h
theorem Kept.alloc {B : Nat} {ok : Nat → Prop} {w w' : World} (h : Kept B ok w w') (hB : B ≤ w'.heap.size) (o : Obj) : Kept B ok w (w'.alloc o) :=
  ⟨h.1, h.2.1, h.2.2.1, by have := h.2.2.2.1; simp; omega, fun k hk hn => (Below.heap_alloc _ _ _ (by omega)).trans (h.2.2.2.2 k hk hn)⟩
theorem Kept.setCell {B : Nat} {ok : Nat → Prop} {w w' : World} (h : Kept B ok w w') (p : Addr) (hp : ok p.block ∨ B ≤ p.block) (u : Value) : Kept B ok w (w'.setCell p u) :=
  ⟨h.1, h.2.1, h.2.2.1, by have := h.2.2.2.1; simp; omega, fun k hk hn => (Below.heap_setCell _ _ _ _ (fun e => by subst e; rcases hp with hp | hp; exact hn hp; omega)).trans (h.2.2.2.2 k hk hn)⟩
theorem Kept.grown {B : Nat} {ok : Nat → Prop} {w w' w2 : World} {row : Option Nat} (h : Kept B ok w w') (hg : w'.grownBy w2 row) (hB : B ≤ w'.heap.size) (hr : ∀ k, row = some k → B ≤ k) : Kept B ok w w2 :=
  ⟨hg.os.trans h.1, hg.tape.trans h.2.1, hg.output.trans h.2.2.1, by have := h.2.2.2.1; have := hg.size; omega, fun k hk hn => (hg.block k (by omega) (fun e => by have := hr k e.symm; omega)).trans (h.2.2.2.2 k hk hn)⟩
theorem Kept.trans {B B' : Nat} {ok ok' : Nat → Prop} {w w' w2 : World} (h : Kept B ok w w') (h2 : Kept B' ok' w' w2) (hB : B ≤ B') (hok : ∀ k, k < B → ok' k → ok k) : Kept B ok w w2 :=
  ⟨h2.1.trans h.1, h2.2.1.trans h.2.1, h2.2.2.1.trans h.2.2.1, by have := h.2.2.2.1; have := h2.2.2.2.1; omega, fun k hk hn => (h2.2.2.2.2 k (by omega) (fun e => hn (hok k hk e))).trans (h.2.2.2.2 k hk hn)⟩
theorem Kept.size {B : Nat} {ok : Nat → Prop} {w w' : World} (h : Kept B ok w w') : w.heap.size ≤ w'.heap.size := h.2.2.2.1
theorem Kept.ofBelow {B : Nat} {w w' : World} (ok : Nat → Prop) (h : Below B w w') : Kept B ok w w' := ⟨h.os, h.tape, h.output, h.size, fun k hk _ => h.block k hk⟩
theorem Kept.below {B : Nat} {ok : Nat → Prop} {w w' : World} (h : Kept B ok w w') (hn : ∀ k, k < B → ¬ ok k) : Below B w w' := ⟨h.1, h.2.1, h.2.2.1, h.2.2.2.1, fun k hk => h.2.2.2.2 k hk (hn k hk)⟩

theorem lt_of_block {w : World} {g : Nat} {o : Obj} (h : w.heap[g]? = some o) : g < w.heap.size := (Array.getElem?_eq_some_iff.1 h).1
theorem PB.lt {g : Nat} {s : ByteArray} {k ln : Nat} {w : World} (h : PB g s k ln w) : g < w.heap.size := lt_of_block h
theorem PB.c0 {g : Nat} {s : ByteArray} {k ln : Nat} {w : World} (h : PB g s k ln w) : w.cell? ⟨g, 0, none⟩ = some (.string s) := by rw [cell_of_row w g 0 _ _ _ h]; rfl
theorem PB.c1 {g : Nat} {s : ByteArray} {k ln : Nat} {w : World} (h : PB g s k ln w) : w.cell? ⟨g, 1, none⟩ = some (.int .i64 k) := by rw [cell_of_row w g 1 _ _ _ h]; rfl
theorem PB.c2 {g : Nat} {s : ByteArray} {k ln : Nat} {w : World} (h : PB g s k ln w) : w.cell? ⟨g, 2, none⟩ = some (.int .i64 ln) := by rw [cell_of_row w g 2 _ _ _ h]; rfl
theorem PB.c3 {g : Nat} {s : ByteArray} {k ln : Nat} {w : World} (h : PB g s k ln w) : w.cell? ⟨g, 3, none⟩ = some (.pointer none) := by rw [cell_of_row w g 3 _ _ _ h]; rfl
theorem PB.fz {g : Nat} {s : ByteArray} {k ln : Nat} {w : World} (h : PB g s k ln w) (j : Nat) : w.frozen? ⟨g, j, none⟩ = false := frozen_of_row w g j _ _ h
theorem PB.drewN {g : Nat} {s : ByteArray} {k ln : Nat} {w : World} (h : PB g s k ln w) (q : Nat) : PB g s k ln (w.drewN q) := h
theorem PB.alloc {g : Nat} {s : ByteArray} {k ln : Nat} {w : World} (h : PB g s k ln w) (o : Obj) : PB g s k ln (w.alloc o) := (Below.heap_alloc _ _ _ h.lt).trans h
theorem PB.pos {g : Nat} {s : ByteArray} {k ln : Nat} {w : World} (h : PB g s k ln w) (k' : Nat) : PB g s k' ln (w.setCell ⟨g, 1, none⟩ (.int .i64 (k' : Int))) := heap_setCell_same w g 1 _ 64 _ h
theorem PB.line {g : Nat} {s : ByteArray} {k ln : Nat} {w : World} (h : PB g s k ln w) (ln' : Nat) : PB g s k ln' (w.setCell ⟨g, 2, none⟩ (.int .i64 (ln' : Int))) := heap_setCell_same w g 2 _ 64 _ h
theorem PB.other {g : Nat} {s : ByteArray} {k ln : Nat} {w : World} (h : PB g s k ln w) (p : Addr) (hp : g ≠ p.block) (u : Value) : PB g s k ln (w.setCell p u) := (Below.heap_setCell _ _ _ _ hp).trans h
theorem PB.grown {g : Nat} {s : ByteArray} {k ln : Nat} {w w' : World} {row : Option Nat} (h : PB g s k ln w) (hg : w.grownBy w' row) (hr : some g ≠ row) : PB g s k ln w' := (hg.block g h.lt hr).trans h

theorem BB.lt {b ol : Nat} {w : World} (h : BB b ol w) : b < w.heap.size := let ⟨_, _, _, _, _, _, h⟩ := h; lt_of_block h
theorem BB.c3 {b ol : Nat} {w : World} (h : BB b ol w) : w.cell? ⟨b, 3, none⟩ = some (.int .i64 ol) := by obtain ⟨_, _, _, _, _, _, h⟩ := h; rw [cell_of_row w b 3 _ _ _ h]; rfl
theorem BB.at {b ol : Nat} {w : World} (h : BB b ol w) (j : Nat) (hj : j < 7) : (w.cell? ⟨b, j, none⟩).isSome = true := by
  obtain ⟨x0, x1, x2, x4, x5, x6, h⟩ := h
  rw [cell_of_row w b j _ _ _ h]
  rcases j with _ | _ | _ | _ | _ | _ | _ | j
  all_goals first | rfl | omega
theorem BB.fz {b ol : Nat} {w : World} (h : BB b ol w) (j : Nat) : w.frozen? ⟨b, j, none⟩ = false := by obtain ⟨_, _, _, _, _, _, h⟩ := h; exact frozen_of_row w b j _ _ h
theorem BB.drewN {b ol : Nat} {w : World} (h : BB b ol w) (q : Nat) : BB b ol (w.drewN q) := h
theorem BB.of {b ol : Nat} {w w' : World} (h : BB b ol w) (he : w'.heap[b]? = w.heap[b]?) : BB b ol w' := by obtain ⟨x0, x1, x2, x4, x5, x6, h⟩ := h; exact ⟨x0, x1, x2, x4, x5, x6, he.trans h⟩
theorem BB.alloc {b ol : Nat} {w : World} (h : BB b ol w) (o : Obj) : BB b ol (w.alloc o) := h.of (Below.heap_alloc _ _ _ h.lt)
theorem BB.other {b ol : Nat} {w : World} (h : BB b ol w) (p : Addr) (hp : b ≠ p.block) (u : Value) : BB b ol (w.setCell p u) := h.of (Below.heap_setCell _ _ _ _ hp)
theorem BB.grown {b ol : Nat} {w w' : World} {row : Option Nat} (h : BB b ol w) (hg : w.grownBy w' row) (hr : some b ≠ row) : BB b ol w' := h.of (hg.block b h.lt hr)
theorem BB.to {b ol : Nat} {w : World} (h : BB b ol w) (u : Value) : BB b ol (w.setCell ⟨b, 2, none⟩ u) := by obtain ⟨x0, x1, x2, x4, x5, x6, h⟩ := h; exact ⟨x0, x1, u, x4, x5, x6, heap_setCell_same w b 2 _ 71 _ h⟩
theorem BB.stop {b ol : Nat} {w : World} (h : BB b ol w) (u : Value) : BB b ol (w.setCell ⟨b, 4, none⟩ u) := by obtain ⟨x0, x1, x2, x4, x5, x6, h⟩ := h; exact ⟨x0, x1, x2, u, x5, x6, heap_setCell_same w b 4 _ 71 _ h⟩
theorem BB.nodes {b ol : Nat} {w : World} (h : BB b ol w) (u : Value) : BB b ol (w.setCell ⟨b, 5, none⟩ u) := by obtain ⟨x0, x1, x2, x4, x5, x6, h⟩ := h; exact ⟨x0, x1, x2, x4, u, x6, heap_setCell_same w b 5 _ 71 _ h⟩

/-- The open block, where there is one: its number and its line. -/
def OB (g B : Nat) (o : Option (Nat × Nat)) (w : World) : Prop := ∀ p, o = some p → p.1 ≠ g ∧ p.1 < B ∧ BB p.1 p.2 w
def okO (g : Nat) (o : Option (Nat × Nat)) (k : Nat) : Prop := k = g ∨ ∃ p, o = some p ∧ k = p.1
/-- The stack with the open block's line on top (none open: the stack is empty), and the stack once it is closed. -/
def top (o : Option (Nat × Nat)) (t : List Nat) : List Nat := match o with | none => [] | some p => p.2 :: t
def rest (o : Option (Nat × Nat)) (t : List Nat) : List Nat := match o with | none => [] | some _ => t
def openV (o : Option (Nat × Nat)) : Value := match o with | none => .pointer none | some p => .pointer (some ⟨p.1, 0, none⟩)

theorem row_of {w w' : World} {base : Nat} {e : TypeId} {size : Nat} {v : Value} {n : Nat} {xs : List Value} (h : w.ownsRow base e size v n xs) (hb : ∀ j, v.ownBlock = some j → w'.heap[j]? = w.heap[j]?) : w'.ownsRow base e size v n xs := by
  obtain ⟨h1, h2⟩ := h
  refine ⟨h1, ?_⟩
  rcases h2 with h2 | ⟨g, cap, cur, hv, hg, hh, r⟩
  · exact Or.inl h2
  · subst hv
    exact Or.inr ⟨g, cap, cur, rfl, hg, (hb g rfl).trans hh, r⟩
/-- The state of a reading of nodes, at position k, line ln; v: the nodes so far. -/
def St (s : ByteArray) (g : Nat) (o : Option (Nat × Nat)) (w : World) (k ln : Nat) (v : Value) (wr : World) : Prop :=
  g < w.heap.size ∧ PB g s k ln wr ∧ OB g w.heap.size o wr ∧ Kept w.heap.size (okO g o) w wr ∧ ∃ n xs, n ≤ k ∧ wr.ownsRow w.heap.size 50 1 v n xs
section
variable {s : ByteArray} {g : Nat} {o : Option (Nat × Nat)} {w wr : World} {k ln : Nat} {v : Value}
theorem St.p (h : St s g o w k ln v wr) : PB g s k ln wr := h.2.1
theorem St.kept (h : St s g o w k ln v wr) : Kept w.heap.size (okO g o) w wr := h.2.2.2.1
theorem St.size (h : St s g o w k ln v wr) : w.heap.size ≤ wr.heap.size := h.kept.size
theorem St.own (h : St s g o w k ln v wr) : ∃ n xs, n ≤ k ∧ wr.ownsRow w.heap.size 50 1 v n xs := h.2.2.2.2
theorem St.gne (h : St s g o w k ln v wr) : some g ≠ v.ownBlock := by
  obtain ⟨n, xs, _, ho⟩ := h.own
  intro e
  have := (ho.lt g e.symm).1
  have := h.1
  omega
theorem St.drewN (h : St s g o w k ln v wr) (q : Nat) : St s g o w k ln v (wr.drewN q) := h
theorem St.alloc (h : St s g o w k ln v wr) (ob : Obj) : St s g o w k ln v (wr.alloc ob) := by
  obtain ⟨h1, h2, h3, h4, n, xs, hn, h5⟩ := h
  exact ⟨h1, h2.alloc _, fun p hp => ⟨(h3 p hp).1, (h3 p hp).2.1, (h3 p hp).2.2.alloc _⟩, h4.alloc h4.size _, n, xs, hn, h5.alloc _⟩
theorem St.pos (h : St s g o w k ln v wr) (k' : Nat) (hk : k ≤ k') : St s g o w k' ln v (wr.setCell ⟨g, 1, none⟩ (.int .i64 (k' : Int))) := by
  obtain ⟨h1, h2, h3, h4, n, xs, hn, h5⟩ := h
  exact ⟨h1, h2.pos _, fun p hp => ⟨(h3 p hp).1, (h3 p hp).2.1, (h3 p hp).2.2.other _ (h3 p hp).1 _⟩, h4.setCell _ (Or.inl (Or.inl rfl)) _, n, xs, by omega, ownsRow_setCell_below h5 h1 _⟩
theorem St.line (h : St s g o w k ln v wr) (ln' : Nat) : St s g o w k ln' v (wr.setCell ⟨g, 2, none⟩ (.int .i64 (ln' : Int))) := by
  obtain ⟨h1, h2, h3, h4, n, xs, hn, h5⟩ := h
  exact ⟨h1, h2.line _, fun p hp => ⟨(h3 p hp).1, (h3 p hp).2.1, (h3 p hp).2.2.other _ (h3 p hp).1 _⟩, h4.setCell _ (Or.inl (Or.inl rfl)) _, n, xs, by omega, ownsRow_setCell_below h5 h1 _⟩
theorem St.grown {w' : World} {v' : Value} (h : St s g o w k ln v wr) (hg : wr.grownBy w' v.ownBlock) {n : Nat} {xs : List Value} (hn : n ≤ k) (ho : w'.ownsRow w.heap.size 50 1 v' n xs) : St s g o w k ln v' w' := by
  have hge : ∀ j, v.ownBlock = some j → w.heap.size ≤ j := by
    obtain ⟨_, _, _, h5⟩ := h.own
    exact fun j hj => (h5.lt j hj).1
  have hne := h.gne
  obtain ⟨h1, h2, h3, h4, _, _, _, h5⟩ := h
  exact ⟨h1, h2.grown hg hne, fun p hp => ⟨(h3 p hp).1, (h3 p hp).2.1, (h3 p hp).2.2.grown hg (fun e => by have := hge _ e.symm; have := (h3 p hp).2.1; omega)⟩, h4.grown hg h4.size hge, n, xs, hn, ho⟩
theorem St.move (h : St s g o w k ln v wr) {k' ln' : Nat} {w' : World} {ok : Nat → Prop} (hp : PB g s k' ln' w') (hkk : k ≤ k') (hk : Kept wr.heap.size ok wr w') (hok : ∀ j, ok j → j = g ∨ w.heap.size ≤ j) (hv : ∀ j, v.ownBlock = some j → ¬ ok j) : St s g o w k' ln' v w' := by
  obtain ⟨h1, h2, h3, h4, n, xs, hn, h5⟩ := h
  have hsz := h4.size
  have key : ∀ j, j < wr.heap.size → ¬ ok j → w'.heap[j]? = wr.heap[j]? := hk.2.2.2.2
  refine ⟨h1, hp, fun p hp => ⟨(h3 p hp).1, (h3 p hp).2.1, (h3 p hp).2.2.of (key _ (h3 p hp).2.2.lt (fun e => ?_))⟩, h4.trans hk hsz (fun j hj e => ?_), n, xs, by omega, ?_⟩
  · rcases hok _ e with x | x
    · exact (h3 p hp).1 x
    · have := (h3 p hp).2.1; omega
  · rcases hok _ e with x | x
    · exact Or.inl x
    · omega
  · exact row_of h5 fun j hj => key j (h5.lt j hj).2 (hv j hj)
theorem St.far (h : St s g o w k ln v wr) (b j : Nat) (hb : w.heap.size ≤ b) (hv : v.ownBlock ≠ some b) (u : Value) : St s g o w k ln v (wr.setCell ⟨b, j, none⟩ u) := by
  obtain ⟨h1, h2, h3, h4, n, xs, hn, h5⟩ := h
  refine ⟨h1, h2.other _ (by show g ≠ b; omega) _, fun p hp => ⟨(h3 p hp).1, (h3 p hp).2.1, (h3 p hp).2.2.other _ (by have := (h3 p hp).2.1; show p.1 ≠ b; omega) _⟩, h4.setCell _ (Or.inr hb) _, n, xs, hn, row_of h5 fun j hj => Below.heap_setCell _ _ _ _ (fun e => by subst e; exact hv hj)⟩
theorem St.to (h : St s g o w k ln v wr) (p : Nat × Nat) (hp : o = some p) (u : Value) : St s g o w k ln v (wr.setCell ⟨p.1, 2, none⟩ u) := by
  obtain ⟨h1, h2, h3, h4, n, xs, hn, h5⟩ := h
  have hB := (h3 p hp).2.1
  refine ⟨h1, h2.other _ (Ne.symm (h3 p hp).1) _, fun q hq => ?_, h4.setCell _ (Or.inl (Or.inr ⟨p, hp, rfl⟩)) _, n, xs, hn, ownsRow_setCell_below h5 hB _⟩
  obtain rfl : p = q := Option.some.inj (hp.symm.trans hq)
  exact ⟨(h3 p hp).1, hB, (h3 p hp).2.2.to _⟩
theorem St.own_pos (h : St s g o w k ln v wr) (k' : Nat) : ∃ n xs, n ≤ k ∧ (wr.setCell ⟨g, 1, none⟩ (.int .i64 (k' : Int))).ownsRow w.heap.size 50 1 v n xs := by
  obtain ⟨h1, h2, h3, h4, n, xs, hn, h5⟩ := h
  exact ⟨n, xs, hn, ownsRow_setCell_below h5 h1 _⟩
theorem St.own_move (h : St s g o w k ln v wr) {w' : World} {ok : Nat → Prop} (hk : Kept wr.heap.size ok wr w') (hv : ∀ j, v.ownBlock = some j → ¬ ok j) : ∃ n xs, n ≤ k ∧ w'.ownsRow w.heap.size 50 1 v n xs := by
  obtain ⟨h1, h2, h3, h4, n, xs, hn, h5⟩ := h
  exact ⟨n, xs, hn, row_of h5 fun j hj => hk.2.2.2.2 j (h5.lt j hj).2 (hv j hj)⟩
theorem heap_at (w : World) (o : Obj) (n : Nat) (hn : n = w.heap.size) : (w.alloc o).heap[n]? = some o := by subst hn; exact heap_alloc_new w o
theorem St.start (hg : PB g s k ln w) (ho : OB g w.heap.size o w) : St s g o w k ln (.slice none 0 0) w := ⟨hg.lt, hg, ho, Kept.refl _ _ _, 0, [], Nat.zero_le _, World.ownsRow_nil _ _ _ _⟩
end

/-- What a reading of nodes comes to: closed (or the line's end) at k, line ln; or an error at line l. -/
def NPost (s : ByteArray) (g : Nat) (o : Option (Nat × Nat)) (w : World) (i line : Nat) (e : Ending) (w' : World) : Prop :=
  (∃ v k ln, e = .returned (.tuple #[v, .nilIface]) ∧ St s g o w k ln v w' ∧ i ≤ k ∧ k ≤ s.size ∧ ln ≤ k + 1 ∧ (i < s.size → i < k) ∧ ∀ t, R s i line (top o t) = R s k ln (rest o t)) ∨
  (∃ v l k ln, e = .returned (.tuple #[.slice none 0 0, v]) ∧ EB w.heap.size l v w' ∧ St s g o w k ln (.slice none 0 0) w' ∧ i ≤ k ∧ k ≤ s.size ∧ ∀ t, R s i line (top o t) = some l)
/-- What a reading of a quoted word comes to. -/
def QPost (s : ByteArray) (g i line : Nat) (w : World) (e : Ending) (w' : World) : Prop :=
  Kept w.heap.size (fun j => j = g) w w' ∧
  ((∃ b j nl, quo s (i + 1) 0 = some (j, nl) ∧ e = .returned (.tuple #[.pointer (some ⟨b, 0, none⟩), .nilIface]) ∧ PB g s j (line + nl) w') ∨
   (quo s (i + 1) 0 = none ∧ ∃ v k ln, e = .returned (.tuple #[.pointer none, v]) ∧ EB w.heap.size line v w' ∧ PB g s k ln w' ∧ i ≤ k ∧ k ≤ s.size))
end Go.Proofs.Qxb6002438aDoor
