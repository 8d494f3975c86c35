/-
  AN ITERATOR AND ITS COPY, drained one behind the other: what either loop leaves of the other's block.
-/
import Derived.Test.YoeaxwItTop
namespace Go.Proofs.Yoeaxw
open Go.RowKit

theorem below_keep {w wr w' : World} {bi : Nat} (h : Below w.heap.size w wr) (hbi : w.heap.size ≤ bi) (k : Keep bi wr w') : Below w.heap.size w w' := h.trans (k.below hbi h.size)

theorem below_below {w wr w' : World} (h : Below w.heap.size w wr) (k : Below wr.heap.size wr w') : Below w.heap.size w w' := h.trans (k.mono h.size)

/-- Two iterators over one row, in two blocks of the call's own: bi at i, bc at j; nothing old has turned. -/
structure Two (w0 w : World) (bi bc bv n : Nat) (a : Option Addr) (g : Nat → Nat) (f : Nat → Int) (i j : Int) : Prop where
  one : It w bi bv n i
  two : It w bc bv n j
  objs : Objs w bv n g f
  vals : Vals w a n f
  ne : bi ≠ bc
  old1 : w0.heap.size ≤ bi
  old2 : w0.heap.size ≤ bc
  bel : Below w0.heap.size w0 w

section
variable {w0 w w' : World} {bi bc bv n : Nat} {a : Option Addr} {g : Nat → Nat} {f : Nat → Int} {i j k : Int}

/-- The first has gone on. -/
theorem Two.go1 (h : Two w0 w bi bc bv n a g f i j) (hi : It w' bi bv n k) (hk : Keep bi w w') : Two w0 w' bi bc bv n a g f k j :=
  ⟨hi, h.two.keep hk (fun e => h.ne e.symm), h.objs.keep h.one hk, h.vals.keep h.one hk, h.ne, h.old1, h.old2, below_keep h.bel h.old1 hk⟩

/-- The second has gone on. -/
theorem Two.go2 (h : Two w0 w bi bc bv n a g f i j) (hi : It w' bc bv n k) (hk : Keep bc w w') : Two w0 w' bi bc bv n a g f i k :=
  ⟨h.one.keep hk h.ne, hi, h.objs.keep h.two hk, h.vals.keep h.two hk, h.ne, h.old1, h.old2, below_keep h.bel h.old2 hk⟩

/-- A copy has been taken. -/
theorem Two.made (hi : It w bi bv n i) (ho : Objs w bv n g f) (hv : Vals w a n f) (hb : Below w0.heap.size w0 w) (h0 : w0.heap.size ≤ bi) (hc : w.heap.size ≤ bc) (hj : It w' bc bv n i) (hb' : Below w.heap.size w w') :
    Two w0 w' bi bc bv n a g f i i :=
  ⟨hi.below hb', hj, ho.below hb', hv.below hb', Nat.ne_of_lt (Nat.lt_of_lt_of_le hi.lt hc), h0, Nat.le_trans hb.size hc, below_below hb hb'⟩
end

end Go.Proofs.Yoeaxw
