/-
  cloneVals AT WHATEVER SLICE CAME IN (nil, empty, or not), in the form in which the laws' shells tell it; and what the laws' ends say of old memory.
-/
import Derived.Test.YoeaxwItDrain
namespace Go.Proofs.Yoeaxw
open Go.RowKit

theorem clone_any (a : Option Addr) (len cap : Nat) (zs : List Int) (w : World) (hlen : len ≤ 65536)
    (h : (a = none ∧ len = 0 ∧ cap = 0 ∧ zs = []) ∨
      ∃ x, a = some x ∧ len ≤ cap ∧ cap ≤ maxLen ∧ zs.length = cap ∧ (∀ i, i < zs.length → w.cell? (x.add i) = some (.int .i64 (zs.getD i 0))) ∧ ∀ n ∈ zs, (Lit.int .i64 n).wf = true) :
    Calls Eaxg.prog 8 #[.slice a len cap] w fun e w' => ∃ a', e = .returned (.slice a' len len) ∧ Vals w' a' len (fun i => zs.getD i 0) ∧ Below w.heap.size w w' := by
  rcases h with ⟨rfl, rfl, rfl, rfl⟩ | ⟨x, rfl, hl, _, hz, hc, _⟩
  · refine (clone_nil w).mono ?_
    rintro e w' ⟨rfl, rfl⟩
    exact ⟨none, rfl, fun h => absurd h (Nat.lt_irrefl _), Below.refl _ _⟩
  · refine (clone_some x len cap (fun i => zs.getD i 0) w hlen fun h0 => ?_).mono ?_
    · obtain ⟨b, off, spot⟩ := x
      have hspot : spot = none := by simpa [Addr.add] using World.cell?_spot (hc 0 (by omega))
      subst hspot
      exact ⟨b, off, rfl, fun k hk => by
        have e : (⟨b, off, none⟩ : Addr).add k = ⟨b, off + k, none⟩ := by
          unfold Addr.add
          by_cases h : k = 0
          · subst h; rfl
          · simp [h]
        rw [← e]
        exact hc k (by omega)⟩
    · rintro e w' ⟨rfl, hv, hb⟩
      exact ⟨_, rfl, hv, hb⟩

/-- Of the clone, the iterator and its steps nothing touches old memory. -/
theorem below_end {w w1 w2 w3 : World} {bi : Nat} (h1 : Below w.heap.size w w1) (h2 : Below w1.heap.size w1 w2) (hbi : w1.heap.size ≤ bi) (h3 : Keep bi w2 w3) : Below w.heap.size w w3 :=
  h1.trans ((h2.mono h1.size).trans (h3.below (Nat.le_trans h1.size hbi) (Nat.le_trans h1.size h2.size)))

end Go.Proofs.Yoeaxw
