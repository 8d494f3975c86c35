/-
  WHAT THE WORLD HOLDS WHILE THE FOUR LAWS RUN, in plain words on blocks. No walk here; nothing of the program's text.
-/
import Derived.WalkKit
import Derived.Deep.OwnRows
import Derived.Deep.Draws
namespace Go.Proofs.Yoeaxw
open Go.RowKit

/-- The three cells of an ArrayIterator: v, i, l. -/
def itf (bv n : Nat) (i : Int) : Nat → Value := fun j => if j = 0 then .slice (some ⟨bv, 0, none⟩) n n else if j = 1 then .int .i64 i else .int .i64 n

/-- Block bi is an ArrayIterator over the row bv of n objects, its counter at i. -/
def It (w : World) (bi bv n : Nat) (i : Int) : Prop := w.rowIs bi 46 3 (itf bv n i)

/-- Block bv is a row of n objects: the j-th is a pointer to the Int in block g j, which holds f j. -/
structure Objs (w : World) (bv n : Nat) (g : Nat → Nat) (f : Nat → Int) : Prop where
  arr : w.rowIs bv 38 n (fun j => .iface 32 (.pointer (some ⟨g j, 0, none⟩)))
  ints : ∀ j, j < n → w.rowIs (g j) 36 1 (fun _ => .int .i64 (f j))

/-- The cloned slice: n numbers in a block of their own (where there are any). -/
def Vals (w : World) (a : Option Addr) (n : Nat) (f : Nat → Int) : Prop :=
  0 < n → ∃ c, a = some ⟨c, 0, none⟩ ∧ w.rowIs c 2 n (fun j => .int .i64 (f j))

/-- All blocks that were there, but for block bi, are as they were. -/
structure Keep (bi : Nat) (w w' : World) : Prop where
  os : w'.os = w.os
  tape : w'.tape = w.tape
  output : w'.output = w.output
  size : w.heap.size ≤ w'.heap.size
  block : ∀ k, k < w.heap.size → k ≠ bi → w'.heap[k]? = w.heap[k]?

theorem Keep.refl (bi : Nat) (w : World) : Keep bi w w := ⟨rfl, rfl, rfl, Nat.le_refl _, fun _ _ _ => rfl⟩

theorem Keep.trans {bi : Nat} {a b c : World} (h : Keep bi a b) (k : Keep bi b c) : Keep bi a c :=
  ⟨k.os.trans h.os, k.tape.trans h.tape, k.output.trans h.output, Nat.le_trans h.size k.size,
   fun i hi hn => (k.block i (Nat.lt_of_lt_of_le hi h.size) hn).trans (h.block i hi hn)⟩

theorem Keep.ofBelow {bi : Nat} {w w' : World} (h : Below w.heap.size w w') : Keep bi w w' :=
  ⟨h.os, h.tape, h.output, h.size, fun k hk _ => h.block k hk⟩

theorem Keep.below {bi B : Nat} {w w' : World} (h : Keep bi w w') (hB : B ≤ bi) (hs : B ≤ w.heap.size) : Below B w w' :=
  ⟨h.os, h.tape, h.output, h.size, fun k hk => h.block k (by omega) (by omega)⟩

theorem Keep.drew {bi : Nat} {a w : World} (h : Keep bi a w) : Keep bi a w.drew := ⟨h.os, h.tape, h.output, h.size, h.block⟩

theorem Keep.drewN {bi : Nat} {a w : World} (h : Keep bi a w) (m : Nat) : Keep bi a (w.drewN m) := ⟨h.os, h.tape, h.output, h.size, h.block⟩

theorem Keep.setCell {bi : Nat} {a w : World} (h : Keep bi a w) (o : Nat) (v : Value) : Keep bi a (w.setCell ⟨bi, o, none⟩ v) :=
  h.trans ⟨rfl, rfl, rfl, by simp [World.setCell], fun k _ hn => Below.heap_setCell _ _ _ _ hn⟩

theorem rowIs_keep {bi b : Nat} {w w' : World} {t : TypeId} {n : Nat} {f : Nat → Value} (h : w.rowIs b t n f) (k : Keep bi w w') (hn : b ≠ bi) : w'.rowIs b t n f :=
  h.of_block (k.block b h.lt hn)

theorem rowIs_below {b : Nat} {w w' : World} {t : TypeId} {n : Nat} {f : Nat → Value} (h : w.rowIs b t n f) (k : Below w.heap.size w w') : w'.rowIs b t n f :=
  h.of_block (k.block b h.lt)

theorem rowIs_drewN {b : Nat} {t : TypeId} {n : Nat} {f : Nat → Value} {w : World} (h : w.rowIs b t n f) (m : Nat) : (w.drewN m).rowIs b t n f := h

/-- Two rows of different element types lie in different blocks. -/
theorem rowIs_apart {w : World} {b b' : Nat} {t t' n n' : Nat} {f f' : Nat → Value} (h : w.rowIs b t n f) (h' : w.rowIs b' t' n' f') (ht : t ≠ t') : b ≠ b' := by
  intro e
  subst e
  obtain ⟨c, hb, _, _⟩ := h
  obtain ⟨c', hb', _, _⟩ := h'
  rw [hb] at hb'
  simp only [Option.some.injEq, Obj.cells.injEq] at hb'
  exact ht hb'.2.1

section
variable {w w' : World} {bi bv n : Nat} {i : Int} {g : Nat → Nat} {f : Nat → Int} {a : Option Addr}

theorem It.c0 (h : It w bi bv n i) : w.cell? ⟨bi, 0, none⟩ = some (.slice (some ⟨bv, 0, none⟩) n n) := by
  have := World.rowIs.cell h (i := 0) (by omega); simpa [itf] using this
theorem It.c1 (h : It w bi bv n i) : w.cell? ⟨bi, 1, none⟩ = some (.int .i64 i) := by
  have := World.rowIs.cell h (i := 1) (by omega); simpa [itf] using this
theorem It.c2 (h : It w bi bv n i) : w.cell? ⟨bi, 2, none⟩ = some (.int .i64 n) := by
  have := World.rowIs.cell h (i := 2) (by omega); simpa [itf] using this
theorem It.free (h : It w bi bv n i) (o : Nat) : w.frozen? ⟨bi, o, none⟩ = false := World.rowIs.frozen h o
theorem It.lt (h : It w bi bv n i) : bi < w.heap.size := World.rowIs.lt h

/-- The counter is stored anew. -/
theorem It.store (h : It w bi bv n i) (k : Int) : It (w.setCell ⟨bi, 1, none⟩ (.int .i64 k)) bi bv n k := by
  refine (World.rowIs.set h 1 (.int .i64 k)).congr fun j hj => ?_
  simp only [itf]
  by_cases e : j = 1
  · subst e; simp
  · rw [if_neg e]; by_cases e0 : j = 0
    · subst e0; simp
    · simp [e0, e]
theorem It.drewN (h : It w bi bv n i) (m : Nat) : It (w.drewN m) bi bv n i := rowIs_drewN h m
theorem It.below (h : It w bi bv n i) (k : Below w.heap.size w w') : It w' bi bv n i := rowIs_below h k
/-- Another iterator's step leaves this one alone. -/
theorem It.keep {bj : Nat} (h : It w bi bv n i) (k : Keep bj w w') (hn : bi ≠ bj) : It w' bi bv n i := rowIs_keep h k hn

theorem It.made (w : World) (bv n : Nat) (i : Int) : It (w.alloc (.cells #[.slice (some ⟨bv, 0, none⟩) n n, .int .i64 i, .int .i64 n] 46)) w.heap.size bv n i := by
  refine World.rowIs_alloc w #[.slice (some ⟨bv, 0, none⟩) n n, .int .i64 i, .int .i64 n] 46 (itf bv n i) fun j hj => ?_
  match j, hj with
  | 0, _ => rfl
  | 1, _ => rfl
  | 2, _ => rfl

theorem Objs.keep (h : Objs w bv n g f) (hi : It w bi bv n i) (k : Keep bi w w') : Objs w' bv n g f :=
  ⟨rowIs_keep h.arr k (rowIs_apart h.arr hi (by decide)), fun j hj => rowIs_keep (h.ints j hj) k (rowIs_apart (h.ints j hj) hi (by decide))⟩
theorem Objs.below (h : Objs w bv n g f) (k : Below w.heap.size w w') : Objs w' bv n g f :=
  ⟨rowIs_below h.arr k, fun j hj => rowIs_below (h.ints j hj) k⟩

theorem Vals.keep (h : Vals w a n f) (hi : It w bi bv n i) (k : Keep bi w w') : Vals w' a n f := fun hn => by
  obtain ⟨c, e, r⟩ := h hn
  exact ⟨c, e, rowIs_keep r k (rowIs_apart r hi (by decide))⟩
theorem Vals.below (h : Vals w a n f) (k : Below w.heap.size w w') : Vals w' a n f := fun hn => by
  obtain ⟨c, e, r⟩ := h hn
  exact ⟨c, e, rowIs_below r k⟩
end

theorem below_drew_any {B : Nat} {a w : World} (h : Below B a w) (m : Nat) : Below B a (w.drewN m) := ⟨h.os, h.tape, h.output, h.size, h.block⟩

end Go.Proofs.Yoeaxw
