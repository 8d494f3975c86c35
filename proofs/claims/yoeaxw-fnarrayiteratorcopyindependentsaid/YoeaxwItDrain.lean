/-
  THE CONTRACT OF drainsRest: from counter p on the iterator yields the rest, then false.
-/
import Derived.Test.YoeaxwItIter
namespace Go.Proofs.Yoeaxw
open Go.RowKit

/-- What a loop over an iterator keeps: the iterator at k, its row, the clone; all else as it was. -/
structure Dr (w wr : World) (bi bv n : Nat) (a : Option Addr) (g : Nat → Nat) (f : Nat → Int) (k : Int) : Prop where
  it : It wr bi bv n k
  objs : Objs wr bv n g f
  vals : Vals wr a n f
  keep : Keep bi w wr

theorem Dr.next {w wr w' : World} {bi bv n : Nat} {a : Option Addr} {g : Nat → Nat} {f : Nat → Int} {k k' : Int} (h : Dr w wr bi bv n a g f k) (hi : It w' bi bv n k') (hk : Keep bi wr w') : Dr w w' bi bv n a g f k' :=
  ⟨hi, h.objs.keep h.it hk, h.vals.keep h.it hk, h.keep.trans hk⟩

theorem Dr.below {w wr w' : World} {bi bv n : Nat} {a : Option Addr} {g : Nat → Nat} {f : Nat → Int} {k : Int} (h : Dr w wr bi bv n a g f k) (hb : Below wr.heap.size wr w') : Dr w w' bi bv n a g f k :=
  ⟨h.it.below hb, h.objs.below hb, h.vals.below hb, h.keep.trans (Keep.ofBelow hb)⟩

theorem Dr.drewN {w wr : World} {bi bv n : Nat} {a : Option Addr} {g : Nat → Nat} {f : Nat → Int} {k : Int} (h : Dr w wr bi bv n a g f k) (m : Nat) : Dr w (wr.drewN m) bi bv n a g f k :=
  h.below (below_drew_any (Below.refl _ _) m)

set_option maxHeartbeats 400000 in
theorem drains_any {w : World} {bi bv n p : Nat} {a : Option Addr} {g : Nat → Nat} {f : Nat → Int} (hi : It w bi bv n p) (ho : Objs w bv n g f) (hv : Vals w a n f) (hp : p ≤ n) (hn : n ≤ 65536) :
    Calls Eaxg.prog 16 #[.pointer (some ⟨bi, 0, none⟩), .slice a n n, .int .i64 p] w fun e w' => e = .returned (.bool true) ∧ It w' bi bv n (n + 1) ∧ Keep bi w w' := by
  have hD0 : Dr w w bi bv n a g f p := ⟨hi, ho, hv, Keep.refl _ _⟩
  clear hi ho hv
  go_enter Eaxg.func16, Eaxg.ntmps16
  go_wp2
  go_loopw [7] (fun i wr => ∃ k : Nat, p ≤ k ∧ k ≤ n ∧ i = .int .i64 k ∧ Dr w wr bi bv n a g f k) (fun i _ => n - (intOf i).toNat)
  case atStart => exact ⟨p, Nat.le_refl _, hp, rfl, hD0⟩
  case round =>
    clear hD0
    obtain ⟨k, hpk, hk, rfl, hD⟩ := hrel
    by_cases hlt : k < n
    · have hkz : (k : Int) < (n : Int) := by omega
      obtain ⟨c, rfl, _⟩ := hD.vals (by omega)
      go_wp2_with fail
      refine (next_yes hD.it (by omega) hn (by omega)).mono ?_
      rintro e w1 ⟨rfl, hI1, hK1⟩
      have hD1 := hD.next hI1 hK1
      clear hI1 hK1 hD
      go_wp2_with fail
      refine (key_any hD1.it (by omega) (by omega)).mono ?_
      rintro e w2 ⟨rfl, hB2⟩
      have hD2 := hD1.below hB2
      clear hB2 hD1
      have hc : w2.cell? ⟨c, k, none⟩ = some (.int .i64 (f k)) := by
        obtain ⟨c', e, hr⟩ := hD2.vals (by omega)
        cases e
        exact hr.cell hlt
      go_wp2_with fail
      go_quiet ((go_at_call 12; exact Calls.quiet_of (value_any (hD2.drewN _).it (hD2.drewN _).objs hlt hn)))
      go_wp2
      go_roundw
      case rel => exact ⟨k + 1, by omega, by omega, by go_num, hD2.drewN _⟩
      case measure => simp [intOf]; omega
    · have hkz : ¬ (k : Int) < (n : Int) := by omega
      obtain rfl : k = n := by omega
      go_wp2_with fail
      refine (next_no hD.it (by omega) (by omega) (by omega)).mono ?_
      rintro e w1 ⟨rfl, hI1, hK1⟩
      have hD1 := hD.next hI1 hK1
      go_wp2
      go_ret
      exact ⟨rfl, hI1, hD1.keep⟩

end Go.Proofs.Yoeaxw
