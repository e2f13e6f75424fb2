/-
  A PROOF OF 'Rows.FnToArrayNumRefusesNonInterfaceSlicesSaid'. The frame is after the guide's shell for a law over slices, turned to a []float64 and a float64.
-/
import Derived.Test.YouagwRows
import Derived.Test.YouagwOpen
import Derived.Test.YouagwWalk10
import Derived.WalkKit
import Derived.ProofKit
import Derived.OpenShut
import Derived.ShutString
import Derived.ChangeOld
import Derived.Below
import Derived.Laws.Cover2
namespace Go.Proofs.Youagw.fnToArrayNumRefusesNonInterfaceSlices
open Go.ChangeShapes Go.WideShapes Go.ChangeAt Go.RowKit
open Go.Proofs.Youagw.Clone Go.Proofs.Youagw.Open
set_option linter.unusedVariables false

theorem own : ownKnob Uagg.prog.godebug = none := by kernel_rfl
theorem laidOut : laidOutB Uagg.prog = true := by kernel_rfl

set_option maxRecDepth 100000 in
theorem lifted (os : Os) (started : os.Started) (H : Type) (enc : TypeId × Value → H) :
    ReturnsInHanded {} Uagg.checked os 10 .any (Rows.fnToArrayNumRefusesNonInterfaceSlicesSpec.pre6 enc Uagg.prog Uagg.f10 Rows.fnToArrayNumRefusesNonInterfaceSlicesRow.domain false) (Rows.fnToArrayNumRefusesNonInterfaceSlicesSpec.post enc Uagg.prog Uagg.f10 false true false false) := by
  refine returnsInHanded_of_change (C := Uagg.checked) own started (by kernel_rfl) Uagg.func10
    (ChangeSpec.witness6 (enc := enc) (C := Uagg.checked) false ⟨#[], #[.slice none 0 0, .float .f64 0], []⟩ 8 (by kernel_rfl) (by kernel_rfl) (by kernel_rfl) (by kernel_rfl)) ?_
  intro W base args ds gs before hval0 hW hcnd _
  have hval : ∀ (j : Nat) t v, Uagg.f10.params[j]? = some t → args[j]? = some v → Value.okWide Uagg.prog W .any base t v := hval0
  have hW' := hW
  obtain ⟨p, q, hA0, hV, rfl, hfz, hnd⟩ := hW
  have hA : DataW.TrodAll enc Uagg.prog W 0 (fun _ => true) true Uagg.f10.params.toList args.toList ds p := hA0
  rw [Uagg.params10] at hA hval
  obtain ⟨v0, vs0, d0, ds0, p0, q0, hargs, rfl, rfl, h0, r0⟩ := trodAll_cons hA
  obtain ⟨v1, vs1, d1, ds1, p1, q1, rfl, rfl, rfl, h1, r1⟩ := trodAll_cons r0
  obtain ⟨rfl, rfl, rfl⟩ := trodAll_nil r1
  obtain rfl : args = #[v0, v1] := by cases args; simp_all
  obtain ⟨rfl, rfl⟩ := trodVars_none hV
  obtain ⟨a0, len0, cap0, rfl⟩ := okWide_slice Uagg.underlying22 (hval 0 22 v0 rfl rfl)
  have k0 := h0
  have lt0 : ∀ x ∈ p0, x.block < W.heap.size := by obtain ⟨m, hm⟩ := k0; exact DataW.trod_lt m _ _ _ hm
  obtain ⟨f1, rfl, rfl, rfl, w1⟩ := open_float Uagg.underlying29 (hval 1 29 v1 rfl rfl) h1
  have walk : Calls Uagg.prog 10 #[.slice a0 len0 cap0, .float .f64 f1] W fun e w' => e = .returned (.bool true) ∧ Below W.heap.size W w' := by
    obtain ⟨fuel, hf⟩ := h0
    rcases open_floats Uagg.underlying22 Uagg.underlying29 (by kernel_rfl) (by simpa [Value.cells] using hf) with ⟨rfl, rfl, rfl⟩ | ⟨ad, xs, rfl, hm, hl, hc⟩
    · exact walk10_nil f1 W
    · exact walk10_some ad len0 cap0 xs f1 W hm ⟨hl, hc⟩
  clear hA0 hval0
  refine walk.mono fun e W' ⟨he, bel⟩ => ?_
  subst he
  exact ⟨_, rfl, _, _, _, [], _, [], hW', trodAll_mk1 (shut_bool Uagg.underlying4 _), (trodAll_cons_mk (Below.trod laidOut (by kernel_rfl) (of_decide_eq_true (by kernel_rfl)) k0 bel lt0) (trodAll_cons_mk (shut_float Uagg.underlying29 w1) trodAll_mk0)), rfl, bel.frame _, fun h => by cases h⟩

theorem over : Rows.fnToArrayNumRefusesNonInterfaceSlicesRow.holds Uagg.pinned (OpenSpec.ofChange Rows.fnToArrayNumRefusesNonInterfaceSlicesSpec) :=
  OpenClaim.holds_of_wide 10 Uagg.f10 rfl rfl rfl rfl rfl rfl rfl ⟨rfl, rfl, rfl, rfl, rfl⟩ rfl rfl rfl rfl rfl (by kernel_rfl) Uagg.func10 (by kernel_rfl)
    (of_decide_eq_true (by kernel_rfl)) (by unfold Func.isWrapper; first | (rw [if_pos (by decide +kernel)]; kernel_rfl) | (rw [if_neg (by decide +kernel)]; exact ⟨rfl, rfl⟩))
    (fun os started H enc _ => lifted os started H enc)

/-- ████ THE STATEMENT ████ -/
theorem proved : Rows.FnToArrayNumRefusesNonInterfaceSlicesSaid := over
#print axioms proved
end Go.Proofs.Youagw.fnToArrayNumRefusesNonInterfaceSlices
