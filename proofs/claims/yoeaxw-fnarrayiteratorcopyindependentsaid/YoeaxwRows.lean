/-
  No cell of these rows narrows 'for every input' (looked for: loops, veiled, ifaces, maps, wideKeys, modest, calm, conditions, laid).
  DERIVED. THE GIVEN ROWS OF THIS SEAT. 4 by the template 'for every input the law returns true; each argument reads behind the call as it read before'; 0 by the template 'total and deterministic' (their statements: YoeaxwTotals.lean).
  GIVEN WITH THE SEED: the statements are not yours to turn. If you find one false, say at which input.
  Laid BY PROGRAM, IN A SANDBOX (cutbox-rows.mjs): the forced cells as the released guide's own fill.sh prints them over the translation 561d0a68adc7b2ed… (all of the seat's roots in one cut). By AI agents, Wed Nov 11 2026. No macro, syntax, notation, axiom, sorry.
-/
import Derived.Test.YoeaxwChecked
import GoSem.Claim
import GoSem.ClaimJoined
import GoSem.ClaimMapViews
import Derived.JoinedTies
import Derived.KernelRfl
namespace Go.Proofs.Yoeaxw
/- THE CELL 'sum', in the pinned program and in every row, IS THE sha256 OF THE DUMP (.gsa) THAT YoeaxwProg.lean LOADS. Nothing in Lean hashes anything: it is a label: what it is worth is what the hold of that sum in a sandbox is worth. -/
noncomputable def Eaxg.pinned : Pinned := { name := "yoeaxw", sum := "561d0a68adc7b2ed32fce49ddb46a8a8ff1f3d686896a43a7a4c88db6df55b9f", checked := Eaxg.checked }
namespace Rows
def none {H : Type} : Left H := { results := [], args := [] }

/-- 'zzlaws_root_b2.FnArrayIteratorWalk': WHATEVER THE INPUT: true; the input reads as it did. -/
def fnArrayIteratorWalkSpec : ChangeSpec := { name := "fnArrayIteratorWalk", fn := fun _ => fun
  | [d1, d2] => { results := [.lit (.bool true)], args := [d1, d2] }
  | _ => none }
def fnArrayIteratorWalkRow : OpenClaim := { program := "yoeaxw", sum := "561d0a68adc7b2ed32fce49ddb46a8a8ff1f3d686896a43a7a4c88db6df55b9f", func := "github.com/d5/tengo/v2/zzlaws_root_b2.FnArrayIteratorWalk", spec := "fnArrayIteratorWalk", apart := false }
def FnArrayIteratorWalkSaid : Prop := fnArrayIteratorWalkRow.holds Eaxg.pinned (OpenSpec.ofChange fnArrayIteratorWalkSpec)

/-- ITS FALSE NEIGHBOUR: 'it returns false'. Refute it at one input. -/
def fnArrayIteratorWalkWrong : ChangeSpec := { name := "fnArrayIteratorWalk", fn := fun _ => fun
  | [d1, d2] => { results := [.lit (.bool false)], args := [d1, d2] }
  | _ => none }
def FnArrayIteratorWalkWrongFalsely : Prop := fnArrayIteratorWalkRow.holds Eaxg.pinned (OpenSpec.ofChange fnArrayIteratorWalkWrong)

/-- 'zzlaws_root_b2.FnArrayIteratorReadsDoNotAdvance': WHATEVER THE INPUT: true; the input reads as it did. -/
def fnArrayIteratorReadsDoNotAdvanceSpec : ChangeSpec := { name := "fnArrayIteratorReadsDoNotAdvance", fn := fun _ => fun
  | [d1, d2] => { results := [.lit (.bool true)], args := [d1, d2] }
  | _ => none }
def fnArrayIteratorReadsDoNotAdvanceRow : OpenClaim := { program := "yoeaxw", sum := "561d0a68adc7b2ed32fce49ddb46a8a8ff1f3d686896a43a7a4c88db6df55b9f", func := "github.com/d5/tengo/v2/zzlaws_root_b2.FnArrayIteratorReadsDoNotAdvance", spec := "fnArrayIteratorReadsDoNotAdvance", apart := false }
def FnArrayIteratorReadsDoNotAdvanceSaid : Prop := fnArrayIteratorReadsDoNotAdvanceRow.holds Eaxg.pinned (OpenSpec.ofChange fnArrayIteratorReadsDoNotAdvanceSpec)

/-- ITS FALSE NEIGHBOUR: 'it returns false'. Refute it at one input. -/
def fnArrayIteratorReadsDoNotAdvanceWrong : ChangeSpec := { name := "fnArrayIteratorReadsDoNotAdvance", fn := fun _ => fun
  | [d1, d2] => { results := [.lit (.bool false)], args := [d1, d2] }
  | _ => none }
def FnArrayIteratorReadsDoNotAdvanceWrongFalsely : Prop := fnArrayIteratorReadsDoNotAdvanceRow.holds Eaxg.pinned (OpenSpec.ofChange fnArrayIteratorReadsDoNotAdvanceWrong)

/-- 'zzlaws_root_b2.FnArrayIteratorCopyResumes': WHATEVER THE INPUT: true; the input reads as it did. -/
def fnArrayIteratorCopyResumesSpec : ChangeSpec := { name := "fnArrayIteratorCopyResumes", fn := fun _ => fun
  | [d1, d2] => { results := [.lit (.bool true)], args := [d1, d2] }
  | _ => none }
def fnArrayIteratorCopyResumesRow : OpenClaim := { program := "yoeaxw", sum := "561d0a68adc7b2ed32fce49ddb46a8a8ff1f3d686896a43a7a4c88db6df55b9f", func := "github.com/d5/tengo/v2/zzlaws_root_b2.FnArrayIteratorCopyResumes", spec := "fnArrayIteratorCopyResumes", apart := false }
def FnArrayIteratorCopyResumesSaid : Prop := fnArrayIteratorCopyResumesRow.holds Eaxg.pinned (OpenSpec.ofChange fnArrayIteratorCopyResumesSpec)

/-- ITS FALSE NEIGHBOUR: 'it returns false'. Refute it at one input. -/
def fnArrayIteratorCopyResumesWrong : ChangeSpec := { name := "fnArrayIteratorCopyResumes", fn := fun _ => fun
  | [d1, d2] => { results := [.lit (.bool false)], args := [d1, d2] }
  | _ => none }
def FnArrayIteratorCopyResumesWrongFalsely : Prop := fnArrayIteratorCopyResumesRow.holds Eaxg.pinned (OpenSpec.ofChange fnArrayIteratorCopyResumesWrong)

/-- 'zzlaws_root_b2.FnArrayIteratorCopyIndependent': WHATEVER THE INPUT: true; the input reads as it did. -/
def fnArrayIteratorCopyIndependentSpec : ChangeSpec := { name := "fnArrayIteratorCopyIndependent", fn := fun _ => fun
  | [d1, d2] => { results := [.lit (.bool true)], args := [d1, d2] }
  | _ => none }
def fnArrayIteratorCopyIndependentRow : OpenClaim := { program := "yoeaxw", sum := "561d0a68adc7b2ed32fce49ddb46a8a8ff1f3d686896a43a7a4c88db6df55b9f", func := "github.com/d5/tengo/v2/zzlaws_root_b2.FnArrayIteratorCopyIndependent", spec := "fnArrayIteratorCopyIndependent", apart := false }
def FnArrayIteratorCopyIndependentSaid : Prop := fnArrayIteratorCopyIndependentRow.holds Eaxg.pinned (OpenSpec.ofChange fnArrayIteratorCopyIndependentSpec)

/-- ITS FALSE NEIGHBOUR: 'it returns false'. Refute it at one input. -/
def fnArrayIteratorCopyIndependentWrong : ChangeSpec := { name := "fnArrayIteratorCopyIndependent", fn := fun _ => fun
  | [d1, d2] => { results := [.lit (.bool false)], args := [d1, d2] }
  | _ => none }
def FnArrayIteratorCopyIndependentWrongFalsely : Prop := fnArrayIteratorCopyIndependentRow.holds Eaxg.pinned (OpenSpec.ofChange fnArrayIteratorCopyIndependentWrong)

end Rows
end Go.Proofs.Yoeaxw
