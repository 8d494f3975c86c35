/-
  THE CONTRACTS OF cloneVals AND ZZarrayIterate: memory that the call makes, a cell (and a block) a round.
-/
import Derived.Test.YoeaxwItSmall
import Derived.Lib.SliceRun
import Derived.WalkSpells
namespace Go.Proofs.Yoeaxw
open Go.RowKit

theorem Eaxg.info2 : (Eaxg.prog.info? 2).map (fun i => (i.zero, i.size, i.bytes)) = some (some (.int .i64 0), 1, 8) := by kernel_rfl
theorem Eaxg.info38 : (Eaxg.prog.info? 38).map (fun i => (i.zero, i.size, i.bytes)) = some (some .nilIface, 1, 16) := by kernel_rfl

/-- 's == nil'. -/
theorem eqlNil22 (w : World) (a : Option Addr) (n c n' c' : Nat) : (binOp .eql 22 (.slice a n c) (.slice none n' c')).run Eaxg.prog w = .ok (.bool a.isNone) w :=
  Lib.run_eql_slice_nil w _ _ a n c n' c' Eaxg.underlying22

/-- k cells of the clone are filled. -/
structure Cl (w wr : World) (len : Nat) (f : Nat → Int) (k : Nat) : Prop where
  row : wr.rowIs w.heap.size 2 len (fun j => if j < k then .int .i64 (f j) else .int .i64 0)
  bel : Below w.heap.size w wr

theorem Cl.start (w : World) (len : Nat) (f : Nat → Int) : Cl w (w.alloc (.cells (madeCells #[.int .i64 0] len) 2)) len f 0 :=
  ⟨(World.rowIs_made w _ len 2).congr (fun j _ => by simp), (Below.refl _ _).alloc (Nat.le_refl _) _⟩

theorem Cl.step {w wr : World} {len : Nat} {f : Nat → Int} {k : Nat} (h : Cl w wr len f k) : Cl w (wr.setCell ⟨w.heap.size, k, none⟩ (.int .i64 (f k))) len f (k + 1) := by
  refine ⟨(h.row.set k _).congr (fun j _ => ?_), h.bel.setCell (Nat.le_refl _) _⟩
  by_cases e : j = k
  · subst e; simp
  · rw [if_neg e]
    by_cases hlt : j < k
    · rw [if_pos hlt, if_pos (by omega)]
    · rw [if_neg hlt, if_neg (by omega)]

theorem Cl.done {w wr : World} {len : Nat} {f : Nat → Int} (h : Cl w wr len f len) : Vals wr (some ⟨w.heap.size, 0, none⟩) len f :=
  fun _ => ⟨_, rfl, h.row.congr (fun j hj => by rw [if_pos hj])⟩

set_option maxHeartbeats 400000 in
/-- nil stays nil. -/
theorem clone_nil (w : World) : Calls Eaxg.prog 8 #[.slice none 0 0] w fun e w' => e = .returned (.slice none 0 0) ∧ w' = w := by
  have q := eqlNil22
  go_enter Eaxg.func8, Eaxg.ntmps8
  go_wp2
  go_ret
  exact ⟨rfl, rfl⟩

set_option maxHeartbeats 400000 in
/-- Any other slice: a copy in a block of its own. -/
theorem clone_some (x : Addr) (len cap : Nat) (f : Nat → Int) (w : World) (hlen : len ≤ 65536) (hx : 0 < len → ∃ b off, x = ⟨b, off, none⟩ ∧ ∀ k, k < len → w.cell? ⟨b, off + k, none⟩ = some (.int .i64 (f k))) :
    Calls Eaxg.prog 8 #[.slice (some x) len cap] w fun e w' => e = .returned (.slice (some ⟨w.heap.size, 0, none⟩) len len) ∧ Vals w' (some ⟨w.heap.size, 0, none⟩) len f ∧ Below w.heap.size w w' := by
  have q := eqlNil22
  have hmk := run_make_row' (P := Eaxg.prog) 22 2 (.int .i64 0) 8 Eaxg.underlying22 Eaxg.info2 rfl .i64 .i64 len (by omega) (by omega)
  go_enter Eaxg.func8, Eaxg.ntmps8
  go_wp2
  clear hmk q
  go_loopw [4] (fun i wr => ∃ k : Nat, k ≤ len ∧ i = .int .i64 k ∧ Cl w wr len f k) (fun i _ => len - (intOf i).toNat)
  case atStart => exact ⟨0, Nat.zero_le _, rfl, Cl.start w len f⟩
  case round =>
    obtain ⟨k, hk, rfl, hC⟩ := hrel
    by_cases hlt : k < len
    · obtain ⟨b, off, rfl, hc⟩ := hx (by omega)
      have hkz : (k : Int) < (len : Int) := by omega
      have hb : b < w.heap.size := World.block_lt_of_cell? _ _ (hc k hlt)
      have g0 : wr.cell? ⟨b, off + k, none⟩ = some (.int .i64 (f k)) := by rw [hC.bel.cell (p := ⟨b, off + k, none⟩) hb]; exact hc k hlt
      have g1 : wr.cell? ⟨w.heap.size, k, none⟩ = some (.int .i64 0) := by simpa using hC.row.cell hlt
      have g2 : wr.frozen? ⟨w.heap.size, k, none⟩ = false := hC.row.frozen k
      have hS := hC.step
      clear hC hc hx
      go_wp2
      go_roundw
      case rel => exact ⟨k + 1, by omega, by go_num, hS⟩
      case measure => simp [intOf]; omega
    · have hkz : ¬ (k : Int) < (len : Int) := by omega
      obtain rfl : k = len := by omega
      clear hx
      go_wp2
      go_ret
      exact ⟨rfl, hC.done, hC.bel⟩

end Go.Proofs.Yoeaxw
