/-
  A PROOF OF 'Rows.FnArrayIteratorCopyIndependentSaid'. The frame was written by the kit's program off the guide's print for that function; the walk is typed by hand out of the callees' contracts (YoeaxwIt*).
-/
import Derived.Test.YoeaxwRows
import Derived.WalkKit
import Derived.ProofKit
import Derived.OpenShut
import Derived.ShutString
import Derived.ChangeOld
import Derived.Below
import Derived.Test.YoeaxwItCopy
namespace Go.Proofs.Yoeaxw.fnArrayIteratorCopyIndependent
open Go.ChangeShapes Go.WideShapes Go.ChangeAt Go.RowKit
open Go.ChangeMaps (open_string shut_string)
set_option linter.unusedVariables false

theorem own : ownKnob Eaxg.prog.godebug = none := by kernel_rfl
theorem laidOut : laidOutB Eaxg.prog = true := by kernel_rfl

/-- WHAT THE WALK IS TOLD OF A SLICE OF INTEGERS THAT CAME IN: it is nil; or it leads to a row of 'cap' cells, the numbers 'zs' (the first 'len' are its elements, the rest its spare room), each fitting its kind. -/
def IsRow (k : IntKind) (w : World) (a : Option Addr) (len cap : Nat) (zs : List Int) : Prop :=
  (a = none ∧ len = 0 ∧ cap = 0 ∧ zs = []) ∨
  ∃ x, a = some x ∧ len ≤ cap ∧ cap ≤ maxLen ∧ zs.length = cap ∧ (∀ i, i < zs.length → w.cell? (x.add i) = some (.int k (zs.getD i 0))) ∧ ∀ n ∈ zs, (Lit.int k n).wf = true

/-! ### THE WALK: the Go text returns true, and writes nothing that was there. -/
theorem walk (a0 : Option Addr) (len0 cap0 : Nat) (z0 : List Int) (a1 : Int) (w : World) (w0 : IsRow .i64 w a0 len0 cap0 z0) (w1 : (Lit.int .i64 a1).wf = true) :
    Calls Eaxg.prog 6 #[.slice a0 len0 cap0, .int .i64 a1] w fun e w' => e = .returned (.bool true) ∧ Below w.heap.size w w' := by
  rcases Nat.lt_or_ge 1048576 len0 with hbig | hbig
  · go_enter Eaxg.func6, Eaxg.ntmps6
    go_wp2
    go_ret
    exact ⟨rfl, Below.refl _ _⟩
  rcases Nat.lt_or_ge 65536 len0 with hlen | hlen
  · go_enter Eaxg.func6, Eaxg.ntmps6
    go_wp2
    go_ret
    exact ⟨rfl, Below.refl _ _⟩
  by_cases hneg : a1 < 0
  · go_enter Eaxg.func6, Eaxg.ntmps6
    go_wp2
    go_ret
    exact ⟨rfl, Below.refl _ _⟩
  by_cases hgt : (len0 : Int) < a1
  · go_enter Eaxg.func6, Eaxg.ntmps6
    go_wp2
    go_ret
    exact ⟨rfl, Below.refl _ _⟩
  obtain ⟨p, rfl⟩ : ∃ p : Nat, a1 = p := ⟨a1.toNat, by omega⟩
  have hp : p ≤ len0 := by omega
  clear w1 hneg hgt hbig
  have HR : Hid (IsRow .i64 w a0 len0 cap0 z0) := w0
  clear w0
  go_enter Eaxg.func6, Eaxg.ntmps6
  go_wp2_with (first | (go_at_call 17; go_in))
  refine (clone_any _ _ _ z0 _ hlen HR.out).mono ?_
  rintro e w1 ⟨a, rfl, hv1, hb1⟩
  go_wp2_with fail
  refine (iterate_any _ _ _ _ hlen hv1).mono ?_
  rintro e w2 ⟨bi, bv, g, rfl, hbi, hi2, ho2, hb2⟩
  have hD0 : Dr w2 w2 bi bv len0 a g (fun i => z0.getD i 0) 0 := ⟨hi2, ho2, hv1.below hb2, Keep.refl _ _⟩
  have HB : Hid (w.heap.size ≤ bi ∧ ∀ w3, Keep bi w2 w3 → Below w.heap.size w w3) := ⟨Nat.le_trans hb1.size hbi, fun w3 h3 => below_end hb1 hb2 hbi h3⟩
  clear hv1 hb1 hb2 hbi hi2 ho2 HR
  generalize (fun i => z0.getD i 0) = f at hD0
  go_wp2_with fail
  go_loopw [6] (fun i wr => ∃ k : Nat, k ≤ p ∧ i = .int .i64 k ∧ Dr w2 wr bi bv len0 a g f k) (fun i _ => p - (intOf i).toNat)
  case atStart => exact ⟨0, Nat.zero_le _, rfl, hD0⟩
  case round =>
    clear hD0
    obtain ⟨k, hk, rfl, hD⟩ := hrel
    by_cases hlt : k < p
    · have hkz : (k : Int) < (p : Int) := by omega
      go_wp2_with fail
      refine (next_yes hD.it (by omega) hlen (by omega)).mono ?_
      rintro e w3 ⟨rfl, hI3, hK3⟩
      have hD3 := hD.next hI3 hK3
      clear hI3 hK3 hD
      go_wp2
      go_roundw
      case rel => exact ⟨k + 1, by omega, by go_num, hD3⟩
      case measure => simp [intOf]; omega
    · have hkz : ¬ (k : Int) < (p : Int) := by omega
      obtain rfl : k = p := by omega
      go_wp2_with fail
      refine (copy_any hD.it).mono ?_
      rintro e w3 ⟨bc, rfl, hbc, hc3, hb3⟩
      have hT := Two.made hD.it hD.objs hD.vals (HB.out.2 _ hD.keep) HB.out.1 hbc hc3 hb3
      clear hD hbc hc3 hb3 HB
      go_wp2_with fail
      refine (drains_any hT.one hT.objs hT.vals hp hlen).mono ?_
      rintro e w4 ⟨rfl, hI4, hK4⟩
      have hT4 := hT.go1 hI4 hK4
      clear hT hI4 hK4
      go_wp2_with fail
      refine (next_no hT4.one (by omega) (by omega) (by omega)).mono ?_
      rintro e w5 ⟨rfl, hI5, hK5⟩
      have hT5 := hT4.go1 hI5 hK5
      clear hT4 hI5 hK5
      go_wp2_with fail
      refine (drains_any hT5.two hT5.objs hT5.vals hp hlen).mono ?_
      rintro e w6 ⟨rfl, hI6, hK6⟩
      have hT6 := hT5.go2 hI6 hK6
      clear hT5 hI6 hK6
      go_wp2
      go_ret
      exact ⟨rfl, hT6.bel⟩

/-! ### THE ROW's STEP (the frame's own text) -/
set_option maxRecDepth 100000 in
theorem lifted (os : Os) (started : os.Started) (H : Type) (enc : TypeId × Value → H) :
    ReturnsInHanded {} Eaxg.checked os 6 .any (Rows.fnArrayIteratorCopyIndependentSpec.pre6 enc Eaxg.prog Eaxg.f6 Rows.fnArrayIteratorCopyIndependentRow.domain false) (Rows.fnArrayIteratorCopyIndependentSpec.post enc Eaxg.prog Eaxg.f6 false true false false) := by
  refine returnsInHanded_of_change (C := Eaxg.checked) own started (by kernel_rfl) Eaxg.func6
    (ChangeSpec.witness6 (enc := enc) (C := Eaxg.checked) false ⟨#[], #[.slice none 0 0, .int .i64 0], []⟩ 8 (by kernel_rfl) (by kernel_rfl) (by kernel_rfl) (by kernel_rfl)) ?_
  intro W base args ds gs before hval0 hW hcnd _
  have hval : ∀ (j : Nat) t v, Eaxg.f6.params[j]? = some t → args[j]? = some v → Value.okWide Eaxg.prog W .any base t v := hval0
  have hW' := hW
  obtain ⟨p, q, hA0, hV, rfl, hfz, hnd⟩ := hW
  have hA : DataW.TrodAll enc Eaxg.prog W 0 (fun _ => true) true Eaxg.f6.params.toList args.toList ds p := hA0
  rw [Eaxg.params6] at hA hval
  obtain ⟨v0, vs0, d0, ds0, p0, q0, hargs, rfl, rfl, h0, r0⟩ := trodAll_cons hA
  obtain ⟨v1, vs1, d1, ds1, p1, q1, rfl, rfl, rfl, h1, r1⟩ := trodAll_cons r0
  obtain ⟨rfl, rfl, rfl⟩ := trodAll_nil r1
  obtain rfl : args = #[v0, v1] := by cases args; simp_all
  obtain ⟨rfl, rfl⟩ := trodVars_none hV
  obtain ⟨a0, len0, cap0, rfl⟩ := okWide_slice Eaxg.underlying22 (hval 0 22 v0 rfl rfl)
  have k0 := h0
  have lt0 : ∀ x ∈ p0, x.block < W.heap.size := by obtain ⟨m, hm⟩ := k0; exact DataW.trod_lt m _ _ _ hm
  obtain ⟨z0, w0⟩ : ∃ zs, IsRow .i64 W a0 len0 cap0 zs := by
    obtain ⟨fuel, hf⟩ := h0
    rcases open_ints Eaxg.underlying22 Eaxg.underlying2 (by kernel_rfl) hf with ⟨hcs, _⟩ | ⟨x, l, c, zs, hcs, _, hl, hm, hz, _, hcell, hwz⟩
    · simp [Value.cells] at hcs
      obtain ⟨rfl, rfl, rfl⟩ := hcs
      exact ⟨[], .inl ⟨rfl, rfl, rfl, rfl⟩⟩
    · simp [Value.cells] at hcs
      obtain ⟨rfl, rfl, rfl⟩ := hcs
      exact ⟨zs, .inr ⟨_, rfl, hl, hm, by simpa using hz, hcell, hwz⟩⟩
  obtain ⟨a1, rfl, rfl, rfl, w1⟩ := open_int Eaxg.underlying3 (hval 1 3 v1 rfl rfl) h1
  clear hA0 hval0
  refine (walk a0 len0 cap0 z0 a1 W w0 w1).mono fun e W' ⟨he, bel⟩ => ?_
  subst he
  exact ⟨_, rfl, _, _, _, [], _, [], hW', trodAll_mk1 (shut_bool Eaxg.underlying4 _), (trodAll_cons_mk (Below.trod laidOut (by kernel_rfl) (of_decide_eq_true (by kernel_rfl)) k0 bel lt0) (trodAll_cons_mk (shut_int Eaxg.underlying3 w1) trodAll_mk0)), rfl, bel.frame _, fun h => by cases h⟩

theorem over : Rows.fnArrayIteratorCopyIndependentRow.holds Eaxg.pinned (OpenSpec.ofChange Rows.fnArrayIteratorCopyIndependentSpec) :=
  OpenClaim.holds_of_wide 6 Eaxg.f6 rfl rfl rfl rfl rfl rfl rfl ⟨rfl, rfl, rfl, rfl, rfl⟩ rfl rfl rfl rfl rfl (by kernel_rfl) Eaxg.func6 (by kernel_rfl)
    (of_decide_eq_true (by kernel_rfl)) (by unfold Func.isWrapper; first | (rw [if_pos (by decide +kernel)]; kernel_rfl) | (rw [if_neg (by decide +kernel)]; exact ⟨rfl, rfl⟩))
    (fun os started H enc _ => lifted os started H enc)

/-- THE STATEMENT. -/
theorem proved : Rows.FnArrayIteratorCopyIndependentSaid := over
#print axioms proved
end Go.Proofs.Yoeaxw.fnArrayIteratorCopyIndependent
