/-
  No cell of these rows narrows 'for every input' (looked for: loops, veiled, ifaces, maps, wideKeys, modest, calm, conditions, laid).
  DERIVED. THE GIVEN ROWS OF THIS SEAT. 8 by the template 'for every input the law returns true; each argument reads behind the call as it read before'; 0 by the template 'total and deterministic' (their statements: YouagwTotals.lean).
  GIVEN WITH THE SEED: the statements are not yours to turn. If you find one false, say at which input.
  Laid BY PROGRAM, IN A SANDBOX (cutbox-rows.mjs): the forced cells as the released guide's own fill.sh prints them over the translation 4bcea40c4b2ed88d… (all of the seat's roots in one cut). By AI agents, Wed Nov 11 2026. No macro, syntax, notation, axiom, sorry.
-/
import Derived.Test.YouagwChecked
import GoSem.Claim
import GoSem.ClaimJoined
import GoSem.ClaimMapViews
import Derived.JoinedTies
import Derived.KernelRfl
namespace Go.Proofs.Youagw
/- THE CELL 'sum', in the pinned program and in every row, IS THE sha256 OF THE DUMP (.gsa) THAT YouagwProg.lean LOADS. Nothing in Lean hashes anything: it is a label: what it is worth is what the hold of that sum in a sandbox is worth. -/
noncomputable def Uagg.pinned : Pinned := { name := "youagw", sum := "4bcea40c4b2ed88d28b2ccc16490ca08e9b005117b8afd6f66a121410acb2e5f", checked := Uagg.checked }
namespace Rows
def none {H : Type} : Left H := { results := [], args := [] }

/-- 'zzlaws_root_b22.FnSliceIsPythonSlice': WHATEVER THE INPUT: true; the input reads as it did. -/
def fnSliceIsPythonSliceSpec : ChangeSpec := { name := "fnSliceIsPythonSlice", fn := fun _ => fun
  | [d1, d2, d3, d4, d5, d6, d7] => { results := [.lit (.bool true)], args := [d1, d2, d3, d4, d5, d6, d7] }
  | _ => none }
def fnSliceIsPythonSliceRow : OpenClaim := { program := "youagw", sum := "4bcea40c4b2ed88d28b2ccc16490ca08e9b005117b8afd6f66a121410acb2e5f", func := "github.com/jmespath/go-jmespath/zzlaws_root_b22.FnSliceIsPythonSlice", spec := "fnSliceIsPythonSlice", apart := false }
def FnSliceIsPythonSliceSaid : Prop := fnSliceIsPythonSliceRow.holds Uagg.pinned (OpenSpec.ofChange fnSliceIsPythonSliceSpec)

/-- ITS FALSE NEIGHBOUR: 'it returns false'. Refute it at one input. -/
def fnSliceIsPythonSliceWrong : ChangeSpec := { name := "fnSliceIsPythonSlice", fn := fun _ => fun
  | [d1, d2, d3, d4, d5, d6, d7] => { results := [.lit (.bool false)], args := [d1, d2, d3, d4, d5, d6, d7] }
  | _ => none }
def FnSliceIsPythonSliceWrongFalsely : Prop := fnSliceIsPythonSliceRow.holds Uagg.pinned (OpenSpec.ofChange fnSliceIsPythonSliceWrong)

/-- 'zzlaws_root_b22.FnSliceReverseInvolution': WHATEVER THE INPUT: true; the input reads as it did. -/
def fnSliceReverseInvolutionSpec : ChangeSpec := { name := "fnSliceReverseInvolution", fn := fun _ => fun
  | [d] => { results := [.lit (.bool true)], args := [d] }
  | _ => none }
def fnSliceReverseInvolutionRow : OpenClaim := { program := "youagw", sum := "4bcea40c4b2ed88d28b2ccc16490ca08e9b005117b8afd6f66a121410acb2e5f", func := "github.com/jmespath/go-jmespath/zzlaws_root_b22.FnSliceReverseInvolution", spec := "fnSliceReverseInvolution", apart := false }
def FnSliceReverseInvolutionSaid : Prop := fnSliceReverseInvolutionRow.holds Uagg.pinned (OpenSpec.ofChange fnSliceReverseInvolutionSpec)

/-- ITS FALSE NEIGHBOUR: 'it returns false'. Refute it at one input. -/
def fnSliceReverseInvolutionWrong : ChangeSpec := { name := "fnSliceReverseInvolution", fn := fun _ => fun
  | [d] => { results := [.lit (.bool false)], args := [d] }
  | _ => none }
def FnSliceReverseInvolutionWrongFalsely : Prop := fnSliceReverseInvolutionRow.holds Uagg.pinned (OpenSpec.ofChange fnSliceReverseInvolutionWrong)

/-- 'zzlaws_root_b22.FnComputeSliceParamsClosedForm': WHATEVER THE INPUT: true; the input reads as it did. -/
def fnComputeSliceParamsClosedFormSpec : ChangeSpec := { name := "fnComputeSliceParamsClosedForm", fn := fun _ => fun
  | [d1, d2, d3, d4, d5, d6, d7] => { results := [.lit (.bool true)], args := [d1, d2, d3, d4, d5, d6, d7] }
  | _ => none }
def fnComputeSliceParamsClosedFormRow : OpenClaim := { program := "youagw", sum := "4bcea40c4b2ed88d28b2ccc16490ca08e9b005117b8afd6f66a121410acb2e5f", func := "github.com/jmespath/go-jmespath/zzlaws_root_b22.FnComputeSliceParamsClosedForm", spec := "fnComputeSliceParamsClosedForm", apart := false }
def FnComputeSliceParamsClosedFormSaid : Prop := fnComputeSliceParamsClosedFormRow.holds Uagg.pinned (OpenSpec.ofChange fnComputeSliceParamsClosedFormSpec)

/-- ITS FALSE NEIGHBOUR: 'it returns false'. Refute it at one input. -/
def fnComputeSliceParamsClosedFormWrong : ChangeSpec := { name := "fnComputeSliceParamsClosedForm", fn := fun _ => fun
  | [d1, d2, d3, d4, d5, d6, d7] => { results := [.lit (.bool false)], args := [d1, d2, d3, d4, d5, d6, d7] }
  | _ => none }
def FnComputeSliceParamsClosedFormWrongFalsely : Prop := fnComputeSliceParamsClosedFormRow.holds Uagg.pinned (OpenSpec.ofChange fnComputeSliceParamsClosedFormWrong)

/-- 'zzlaws_root_b22.FnComputeSliceParamsStaysInside': WHATEVER THE INPUT: true; the input reads as it did. -/
def fnComputeSliceParamsStaysInsideSpec : ChangeSpec := { name := "fnComputeSliceParamsStaysInside", fn := fun _ => fun
  | [d1, d2, d3, d4, d5, d6, d7] => { results := [.lit (.bool true)], args := [d1, d2, d3, d4, d5, d6, d7] }
  | _ => none }
def fnComputeSliceParamsStaysInsideRow : OpenClaim := { program := "youagw", sum := "4bcea40c4b2ed88d28b2ccc16490ca08e9b005117b8afd6f66a121410acb2e5f", func := "github.com/jmespath/go-jmespath/zzlaws_root_b22.FnComputeSliceParamsStaysInside", spec := "fnComputeSliceParamsStaysInside", apart := false }
def FnComputeSliceParamsStaysInsideSaid : Prop := fnComputeSliceParamsStaysInsideRow.holds Uagg.pinned (OpenSpec.ofChange fnComputeSliceParamsStaysInsideSpec)

/-- ITS FALSE NEIGHBOUR: 'it returns false'. Refute it at one input. -/
def fnComputeSliceParamsStaysInsideWrong : ChangeSpec := { name := "fnComputeSliceParamsStaysInside", fn := fun _ => fun
  | [d1, d2, d3, d4, d5, d6, d7] => { results := [.lit (.bool false)], args := [d1, d2, d3, d4, d5, d6, d7] }
  | _ => none }
def FnComputeSliceParamsStaysInsideWrongFalsely : Prop := fnComputeSliceParamsStaysInsideRow.holds Uagg.pinned (OpenSpec.ofChange fnComputeSliceParamsStaysInsideWrong)

/-- 'zzlaws_root_b22.FnCapSliceClosedForm': WHATEVER THE INPUT: true; the input reads as it did. -/
def fnCapSliceClosedFormSpec : ChangeSpec := { name := "fnCapSliceClosedForm", fn := fun _ => fun
  | [d1, d2, d3] => { results := [.lit (.bool true)], args := [d1, d2, d3] }
  | _ => none }
def fnCapSliceClosedFormRow : OpenClaim := { program := "youagw", sum := "4bcea40c4b2ed88d28b2ccc16490ca08e9b005117b8afd6f66a121410acb2e5f", func := "github.com/jmespath/go-jmespath/zzlaws_root_b22.FnCapSliceClosedForm", spec := "fnCapSliceClosedForm", apart := false }
def FnCapSliceClosedFormSaid : Prop := fnCapSliceClosedFormRow.holds Uagg.pinned (OpenSpec.ofChange fnCapSliceClosedFormSpec)

/-- ITS FALSE NEIGHBOUR: 'it returns false'. Refute it at one input. -/
def fnCapSliceClosedFormWrong : ChangeSpec := { name := "fnCapSliceClosedForm", fn := fun _ => fun
  | [d1, d2, d3] => { results := [.lit (.bool false)], args := [d1, d2, d3] }
  | _ => none }
def FnCapSliceClosedFormWrongFalsely : Prop := fnCapSliceClosedFormRow.holds Uagg.pinned (OpenSpec.ofChange fnCapSliceClosedFormWrong)

/-- 'zzlaws_root_b22.FnCapSliceRangeAndFixedPoints': WHATEVER THE INPUT: true; the input reads as it did. -/
def fnCapSliceRangeAndFixedPointsSpec : ChangeSpec := { name := "fnCapSliceRangeAndFixedPoints", fn := fun _ => fun
  | [d1, d2, d3] => { results := [.lit (.bool true)], args := [d1, d2, d3] }
  | _ => none }
def fnCapSliceRangeAndFixedPointsRow : OpenClaim := { program := "youagw", sum := "4bcea40c4b2ed88d28b2ccc16490ca08e9b005117b8afd6f66a121410acb2e5f", func := "github.com/jmespath/go-jmespath/zzlaws_root_b22.FnCapSliceRangeAndFixedPoints", spec := "fnCapSliceRangeAndFixedPoints", apart := false }
def FnCapSliceRangeAndFixedPointsSaid : Prop := fnCapSliceRangeAndFixedPointsRow.holds Uagg.pinned (OpenSpec.ofChange fnCapSliceRangeAndFixedPointsSpec)

/-- ITS FALSE NEIGHBOUR: 'it returns false'. Refute it at one input. -/
def fnCapSliceRangeAndFixedPointsWrong : ChangeSpec := { name := "fnCapSliceRangeAndFixedPoints", fn := fun _ => fun
  | [d1, d2, d3] => { results := [.lit (.bool false)], args := [d1, d2, d3] }
  | _ => none }
def FnCapSliceRangeAndFixedPointsWrongFalsely : Prop := fnCapSliceRangeAndFixedPointsRow.holds Uagg.pinned (OpenSpec.ofChange fnCapSliceRangeAndFixedPointsWrong)

/-- 'zzlaws_root_b22.FnToArrayNumExact': WHATEVER THE INPUT: true; the input reads as it did. -/
def fnToArrayNumExactSpec : ChangeSpec := { name := "fnToArrayNumExact", fn := fun _ => fun
  | [d1, d2] => { results := [.lit (.bool true)], args := [d1, d2] }
  | _ => none }
def fnToArrayNumExactRow : OpenClaim := { program := "youagw", sum := "4bcea40c4b2ed88d28b2ccc16490ca08e9b005117b8afd6f66a121410acb2e5f", func := "github.com/jmespath/go-jmespath/zzlaws_root_b22.FnToArrayNumExact", spec := "fnToArrayNumExact", apart := false }
def FnToArrayNumExactSaid : Prop := fnToArrayNumExactRow.holds Uagg.pinned (OpenSpec.ofChange fnToArrayNumExactSpec)

/-- ITS FALSE NEIGHBOUR: 'it returns false'. Refute it at one input. -/
def fnToArrayNumExactWrong : ChangeSpec := { name := "fnToArrayNumExact", fn := fun _ => fun
  | [d1, d2] => { results := [.lit (.bool false)], args := [d1, d2] }
  | _ => none }
def FnToArrayNumExactWrongFalsely : Prop := fnToArrayNumExactRow.holds Uagg.pinned (OpenSpec.ofChange fnToArrayNumExactWrong)

/-- 'zzlaws_root_b22.FnToArrayNumRefusesNonInterfaceSlices': WHATEVER THE INPUT: true; the input reads as it did. -/
def fnToArrayNumRefusesNonInterfaceSlicesSpec : ChangeSpec := { name := "fnToArrayNumRefusesNonInterfaceSlices", fn := fun _ => fun
  | [d1, d2] => { results := [.lit (.bool true)], args := [d1, d2] }
  | _ => none }
def fnToArrayNumRefusesNonInterfaceSlicesRow : OpenClaim := { program := "youagw", sum := "4bcea40c4b2ed88d28b2ccc16490ca08e9b005117b8afd6f66a121410acb2e5f", func := "github.com/jmespath/go-jmespath/zzlaws_root_b22.FnToArrayNumRefusesNonInterfaceSlices", spec := "fnToArrayNumRefusesNonInterfaceSlices", apart := false }
def FnToArrayNumRefusesNonInterfaceSlicesSaid : Prop := fnToArrayNumRefusesNonInterfaceSlicesRow.holds Uagg.pinned (OpenSpec.ofChange fnToArrayNumRefusesNonInterfaceSlicesSpec)

/-- ITS FALSE NEIGHBOUR: 'it returns false'. Refute it at one input. -/
def fnToArrayNumRefusesNonInterfaceSlicesWrong : ChangeSpec := { name := "fnToArrayNumRefusesNonInterfaceSlices", fn := fun _ => fun
  | [d1, d2] => { results := [.lit (.bool false)], args := [d1, d2] }
  | _ => none }
def FnToArrayNumRefusesNonInterfaceSlicesWrongFalsely : Prop := fnToArrayNumRefusesNonInterfaceSlicesRow.holds Uagg.pinned (OpenSpec.ofChange fnToArrayNumRefusesNonInterfaceSlicesWrong)

end Rows
end Go.Proofs.Youagw
