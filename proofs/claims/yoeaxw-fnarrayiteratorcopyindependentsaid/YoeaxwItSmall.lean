/-
  THE CONTRACTS OF Next, ZZkey, ZZvalue, ZZcopy.
-/
import Derived.Test.YoeaxwChecked
import Derived.Test.YoeaxwItParts
import Derived.WalkKit
import Derived.RegionTactic
import Derived.ChangeAlike
import Derived.Deep.QuietTactic
import Derived.BigQuiet
namespace Go.Proofs.Yoeaxw
open Go.RowKit

/-- An assertion to the very pointer type that the value bears. -/
theorem as32 (v : Value) (xT : TypeId) (w : World) : (Instr.typeAssert (.iface 32 v) xT 32 false).run Eaxg.prog w = .ok v w := by
  simp [Instr.typeAssert, run_underlying Eaxg.underlying32]
theorem as25 (v : Value) (xT : TypeId) (w : World) : (Instr.typeAssert (.iface 25 v) xT 25 false).run Eaxg.prog w = .ok v w := by
  simp [Instr.typeAssert, run_underlying Eaxg.underlying25]

set_option maxHeartbeats 400000 in
/-- Next where an element is left: true. -/
theorem next_yes {w : World} {bi bv n : Nat} {i : Int} (h : It w bi bv n i) (h0 : 0 ≤ i) (hn : n ≤ 65536) (hlt : i + 1 ≤ (n : Int)) :
    Calls Eaxg.prog 10 #[.pointer (some ⟨bi, 0, none⟩)] w fun e w' => e = .returned (.bool true) ∧ It w' bi bv n (i + 1) ∧ Keep bi w w' := by
  have c1 := h.c1
  have c2 := h.c2
  have f1 := h.free 1
  have d2 : (w.setCell ⟨bi, 1, none⟩ (.int .i64 (i + 1))).cell? ⟨bi, 2, none⟩ = some (.int .i64 n) := (h.store (i + 1)).c2
  have d1 : (w.setCell ⟨bi, 1, none⟩ (.int .i64 (i + 1))).cell? ⟨bi, 1, none⟩ = some (.int .i64 (i + 1)) := (h.store (i + 1)).c1
  have hi' : i ≤ 65536 := by omega
  go_enter Eaxg.func10, Eaxg.ntmps10
  go_wp2
  go_quiet (fail)
  go_wp2
  go_ret
  exact ⟨rfl, (h.store _).drewN _, ((Keep.refl _ _).setCell _ _).drewN _⟩

set_option maxHeartbeats 400000 in
/-- Next past the end: false. -/
theorem next_no {w : World} {bi bv n : Nat} {i : Int} (h : It w bi bv n i) (h0 : 0 ≤ i) (hi : i ≤ 1000000) (hge : (n : Int) < i + 1) :
    Calls Eaxg.prog 10 #[.pointer (some ⟨bi, 0, none⟩)] w fun e w' => e = .returned (.bool false) ∧ It w' bi bv n (i + 1) ∧ Keep bi w w' := by
  have c1 := h.c1
  have c2 := h.c2
  have f1 := h.free 1
  have d2 : (w.setCell ⟨bi, 1, none⟩ (.int .i64 (i + 1))).cell? ⟨bi, 2, none⟩ = some (.int .i64 n) := (h.store (i + 1)).c2
  have d1 : (w.setCell ⟨bi, 1, none⟩ (.int .i64 (i + 1))).cell? ⟨bi, 1, none⟩ = some (.int .i64 (i + 1)) := (h.store (i + 1)).c1
  go_enter Eaxg.func10, Eaxg.ntmps10
  go_wp2
  go_quiet (fail)
  go_wp2
  go_ret
  have hd : decide (i + 1 ≤ (n : Int)) = false := decide_eq_false (by omega)
  exact ⟨by rw [hd]; rfl, (h.store _).drewN _, ((Keep.refl _ _).setCell _ _).drewN _⟩

set_option maxHeartbeats 400000 in
/-- ZZkey: the counter less one; a new Int is laid. -/
theorem key_any {w : World} {bi bv n : Nat} {k : Int} (h : It w bi bv n (k + 1)) (h0 : 0 ≤ k) (hk : k ≤ 1000000) :
    Calls Eaxg.prog 11 #[.pointer (some ⟨bi, 0, none⟩)] w fun e w' => e = .returned (.int .i64 k) ∧ Below w.heap.size w w' := by
  have c1 := h.c1
  have ha := as32
  go_enter Eaxg.func11, Eaxg.ntmps11
  go_wp2
  go_ret
  exact ⟨by simp, (Below.refl _ _).alloc (Nat.le_refl _) _⟩

set_option maxHeartbeats 400000 in
/-- ZZvalue: the element behind the counter; nothing is written. -/
theorem value_any {w : World} {bi bv n k : Nat} {g : Nat → Nat} {f : Nat → Int} (h : It w bi bv n ((k : Int) + 1)) (ho : Objs w bv n g f) (hk : k < n) (hn : n ≤ 65536) :
    Calls Eaxg.prog 12 #[.pointer (some ⟨bi, 0, none⟩)] w fun e w' => e = .returned (.int .i64 (f k)) ∧ ∃ m, w' = w.drewN m := by
  have c0 := h.c0
  have c1 := h.c1
  have ca := ho.arr.cell hk
  have ci := (ho.ints k hk).cell (i := 0) (by omega)
  have hkz : (k : Int) < (n : Int) := by omega
  have hk0 : (0 : Int) ≤ (k : Int) := by omega
  have hk6 : (k : Int) ≤ 65536 := by omega
  have ha := as32
  clear h ho
  go_enter Eaxg.func12, Eaxg.ntmps12
  go_wp2
  go_quiet (fail)
  go_wp2
  go_ret
  exact ⟨rfl, _, rfl⟩

set_option maxHeartbeats 400000 in
/-- ZZcopy: a new iterator, at the same place of the same row. -/
theorem copy_any {w : World} {bi bv n : Nat} {i : Int} (h : It w bi bv n i) :
    Calls Eaxg.prog 15 #[.pointer (some ⟨bi, 0, none⟩)] w fun e w' => ∃ bc, e = .returned (.pointer (some ⟨bc, 0, none⟩)) ∧ w.heap.size ≤ bc ∧ It w' bc bv n i ∧ Below w.heap.size w w' := by
  have c0 := h.c0
  have c1 := h.c1
  have c2 := h.c2
  have ha := as25
  clear h
  go_enter Eaxg.func15, Eaxg.ntmps15
  go_wp2
  go_region
  all_goals
    go_wp2
    go_ret
    exact ⟨_, rfl, Nat.le_refl _, It.made _ _ _ _, ((Below.refl _ _).alloc (Nat.le_refl _) _).drew⟩

end Go.Proofs.Yoeaxw
