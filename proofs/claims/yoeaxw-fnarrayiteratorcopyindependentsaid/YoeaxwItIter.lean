/-
  THE CONTRACT OF ZZarrayIterate: a row of n objects, an Int a round; the Array; its iterator at 0.
-/
import Derived.Test.YoeaxwItMake
namespace Go.Proofs.Yoeaxw
open Go.RowKit

/-- k objects are made. -/
structure Ob (w wr : World) (n : Nat) (f : Nat → Int) (k : Nat) : Prop where
  bel : Below w.heap.size w wr
  size : wr.heap.size = w.heap.size + 1 + k
  arr : wr.rowIs w.heap.size 38 n (fun j => if j < k then .iface 32 (.pointer (some ⟨w.heap.size + 1 + j, 0, none⟩)) else .nilIface)
  ints : ∀ j, j < k → wr.rowIs (w.heap.size + 1 + j) 36 1 (fun _ => .int .i64 (f j))

theorem Ob.start (w : World) (n : Nat) (f : Nat → Int) : Ob w (w.alloc (.cells (madeCells #[.nilIface] n) 38)) n f 0 :=
  ⟨(Below.refl _ _).alloc (Nat.le_refl _) _, by simp, (World.rowIs_made w _ n 38).congr (fun j _ => by simp), fun j hj => absurd hj (Nat.not_lt_zero _)⟩

theorem Ob.step {w wr : World} {n : Nat} {f : Nat → Int} {k : Nat} (h : Ob w wr n f k) :
    Ob w ((wr.alloc (.cells #[.int .i64 (f k)] 36)).setCell ⟨w.heap.size, k, none⟩ (.iface 32 (.pointer (some ⟨w.heap.size + 1 + k, 0, none⟩)))) n f (k + 1) := by
  have hnew : (wr.alloc (.cells #[.int .i64 (f k)] 36)).rowIs wr.heap.size 36 1 (fun _ => .int .i64 (f k)) :=
    World.rowIs_alloc wr #[.int .i64 (f k)] 36 (fun _ => .int .i64 (f k)) (fun j hj => by match j, hj with | 0, _ => rfl)
  rw [h.size] at hnew
  refine ⟨(h.bel.alloc (by rw [h.size]; omega) _).setCell (Nat.le_refl _) _, by simp [h.size]; omega, ((h.arr.alloc _).set k _).congr (fun j _ => ?_), fun j hj => ?_⟩
  · by_cases e : j = k
    · subst e; simp
    · rw [if_neg e]
      by_cases hlt : j < k
      · rw [if_pos hlt, if_pos (by omega)]
      · rw [if_neg hlt, if_neg (by omega)]
  · by_cases e : j = k
    · subst e; exact hnew.setOther (by show w.heap.size + 1 + j ≠ w.heap.size; omega) _
    · exact ((h.ints j (by omega)).alloc _).setOther (by show w.heap.size + 1 + j ≠ w.heap.size; omega) _

theorem Ob.done {w wr : World} {n : Nat} {f : Nat → Int} (h : Ob w wr n f n) : Objs wr w.heap.size n (fun j => w.heap.size + 1 + j) f :=
  ⟨h.arr.congr (fun j hj => by rw [if_pos hj]), h.ints⟩

/-- The Array's block, then the iterator's. -/
theorem Ob.ended {w wr : World} {n : Nat} {f : Nat → Int} {v : Value} (h : Ob w wr n f n) (hv : v = .pointer (some ⟨w.heap.size + 1 + n + 1, 0, none⟩)) :
    ∃ bi bv g, Ending.returned v = .returned (.pointer (some ⟨bi, 0, none⟩)) ∧ w.heap.size ≤ bi ∧
      It ((wr.alloc (.cells #[.slice (some ⟨w.heap.size, 0, none⟩) n n] 41)).alloc (.cells #[.slice (some ⟨w.heap.size, 0, none⟩) n n, .int .i64 0, .int .i64 n] 46)).drew bi bv n 0 ∧
      Objs ((wr.alloc (.cells #[.slice (some ⟨w.heap.size, 0, none⟩) n n] 41)).alloc (.cells #[.slice (some ⟨w.heap.size, 0, none⟩) n n, .int .i64 0, .int .i64 n] 46)).drew bv n g f ∧
      Below w.heap.size w ((wr.alloc (.cells #[.slice (some ⟨w.heap.size, 0, none⟩) n n] 41)).alloc (.cells #[.slice (some ⟨w.heap.size, 0, none⟩) n n, .int .i64 0, .int .i64 n] 46)).drew := by
  have hi := It.made (wr.alloc (.cells #[.slice (some ⟨w.heap.size, 0, none⟩) n n] 41)) w.heap.size n 0
  rw [Go.Deep.nblk_alloc, h.size] at hi
  have hb : Below wr.heap.size wr ((wr.alloc (.cells #[.slice (some ⟨w.heap.size, 0, none⟩) n n] 41)).alloc (.cells #[.slice (some ⟨w.heap.size, 0, none⟩) n n, .int .i64 0, .int .i64 n] 46)).drew :=
    (((Below.refl _ _).alloc (Nat.le_refl _) _).alloc (by rw [Go.Deep.nblk_alloc]; omega) _).drew
  refine ⟨_, w.heap.size, fun j => w.heap.size + 1 + j, by rw [hv], by omega, hi, h.done.below hb, h.bel.trans (hb.mono (by rw [h.size]; omega))⟩

set_option maxHeartbeats 400000 in
/-- ZZarrayIterate. -/
theorem iterate_any (a : Option Addr) (n : Nat) (f : Nat → Int) (w : World) (hn : n ≤ 65536) (hv : Vals w a n f) :
    Calls Eaxg.prog 9 #[.slice a n n] w fun e w' => ∃ bi bv g, e = .returned (.pointer (some ⟨bi, 0, none⟩)) ∧ w.heap.size ≤ bi ∧ It w' bi bv n 0 ∧ Objs w' bv n g f ∧ Below w.heap.size w w' := by
  have hmk := run_make_row' (P := Eaxg.prog) 31 38 .nilIface 16 Eaxg.underlying31 Eaxg.info38 rfl .i64 .i64 n (by omega) (by omega)
  go_enter Eaxg.func9, Eaxg.ntmps9
  go_wp2
  clear hmk
  go_loopw [4] (fun i wr => ∃ k : Nat, k ≤ n ∧ i = .int .i64 k ∧ Ob w wr n f k) (fun i _ => n - (intOf i).toNat)
  case atStart => exact ⟨0, Nat.zero_le _, rfl, Ob.start w n f⟩
  case round =>
    obtain ⟨k, hk, rfl, hO⟩ := hrel
    by_cases hlt : k < n
    · obtain ⟨c, rfl, hc⟩ := hv (by omega)
      have hkz : (k : Int) < (n : Int) := by omega
      have g0 : wr.cell? ⟨c, k, none⟩ = some (.int .i64 (f k)) := by rw [hO.bel.cell (p := ⟨c, k, none⟩) hc.lt]; exact hc.cell hlt
      have g1 : ∀ o, (wr.alloc o).cell? ⟨w.heap.size, k, none⟩ = some .nilIface := fun o => by simpa using (hO.arr.alloc o).cell hlt
      have g2 : ∀ o, (wr.alloc o).frozen? ⟨w.heap.size, k, none⟩ = false := fun o => (hO.arr.alloc o).frozen k
      have hsize := hO.size
      have hS := hO.step
      clear hO hc hv
      go_wp2
      go_roundw
      case rel => exact ⟨k + 1, by omega, by go_num, hS⟩
      case measure => simp [intOf]; omega
    · have hkz : ¬ (k : Int) < (n : Int) := by omega
      obtain rfl : k = n := by omega
      have hsize := hO.size
      have ha := as25
      clear hv
      go_wp2
      go_region
      all_goals
        go_wp2
        go_ret
        exact Ob.ended hO rfl

end Go.Proofs.Yoeaxw
