/-
  A PROOF OF 'Rows.FnSliceReverseInvolutionSaid'. The frame is after the guide's shell for a law over slices, turned to a []float64.
-/
import Derived.Test.YouagwRows
import Derived.Test.YouagwOpen
import Derived.Test.YouagwWalk4
import Derived.WalkKit
import Derived.ProofKit
import Derived.OpenShut
import Derived.ShutString
import Derived.ChangeOld
import Derived.Below
namespace Go.Proofs.Youagw.fnSliceReverseInvolution
open Go.ChangeShapes Go.WideShapes Go.ChangeAt Go.RowKit
open Go.Proofs.Youagw.Clone Go.Proofs.Youagw.Open Go.Proofs.Youagw.Rd
set_option linter.unusedVariables false

theorem own : ownKnob Uagg.prog.godebug = none := by kernel_rfl
theorem laidOut : laidOutB Uagg.prog = true := by kernel_rfl

theorem walk (a : Option Addr) (l c : Nat) (w : World) (h : ∃ xs, Came w a l c xs) :
    Calls Uagg.prog 4 #[.slice a l c] w fun e w' => e = .returned (.bool true) ∧ Below w.heap.size w w' := by
  obtain ⟨xs, h⟩ := h
  by_cases he : 131072 < l
  · exact (early4 a l c w h.max he).mono fun e w' ⟨h1, h2⟩ => ⟨h1, h2 ▸ Below.refl _ _⟩
  · exact walk4_main a l c xs w (by omega) h

set_option maxRecDepth 100000 in
theorem lifted (os : Os) (started : os.Started) (H : Type) (enc : TypeId × Value → H) :
    ReturnsInHanded {} Uagg.checked os 4 .any (Rows.fnSliceReverseInvolutionSpec.pre6 enc Uagg.prog Uagg.f4 Rows.fnSliceReverseInvolutionRow.domain false) (Rows.fnSliceReverseInvolutionSpec.post enc Uagg.prog Uagg.f4 false true false false) := by
  refine returnsInHanded_of_change (C := Uagg.checked) own started (by kernel_rfl) Uagg.func4
    (ChangeSpec.witness6 (enc := enc) (C := Uagg.checked) false ⟨#[], #[.slice none 0 0], []⟩ 8 (by kernel_rfl) (by kernel_rfl) (by kernel_rfl) (by kernel_rfl)) ?_
  intro W base args ds gs before hval0 hW hcnd _
  have hval : ∀ (j : Nat) t v, Uagg.f4.params[j]? = some t → args[j]? = some v → Value.okWide Uagg.prog W .any base t v := hval0
  have hW' := hW
  obtain ⟨p, q, hA0, hV, rfl, hfz, hnd⟩ := hW
  have hA : DataW.TrodAll enc Uagg.prog W 0 (fun _ => true) true Uagg.f4.params.toList args.toList ds p := hA0
  rw [Uagg.params4] at hA hval
  obtain ⟨v0, vs0, d0, ds0, p0, q0, hargs, rfl, rfl, h0, r0⟩ := trodAll_cons hA
  obtain ⟨rfl, rfl, rfl⟩ := trodAll_nil r0
  obtain rfl : args = #[v0] := by cases args; simp_all
  obtain ⟨rfl, rfl⟩ := trodVars_none hV
  obtain ⟨a0, len0, cap0, rfl⟩ := okWide_slice Uagg.underlying22 (hval 0 22 v0 rfl rfl)
  have k0 := h0
  have lt0 : ∀ x ∈ p0, x.block < W.heap.size := by obtain ⟨m, hm⟩ := k0; exact DataW.trod_lt m _ _ _ hm
  have wlk : Calls Uagg.prog 4 #[.slice a0 len0 cap0] W fun e w' => e = .returned (.bool true) ∧ Below W.heap.size W w' := by
    refine walk a0 len0 cap0 W ?_
    obtain ⟨fuel, hf⟩ := h0
    rcases open_floats Uagg.underlying22 Uagg.underlying29 (by kernel_rfl) (by simpa [Value.cells] using hf) with ⟨h1, h2, h3⟩ | ⟨ad, xs, h1, hm, hl, hc⟩
    · exact ⟨[], .inl ⟨h1, h2, h3, rfl⟩⟩
    · exact ⟨xs, .inr ⟨ad, h1, hm, hl, hc⟩⟩
  clear hA0 hval0
  refine wlk.mono fun e W' ⟨he, bel⟩ => ?_
  subst he
  exact ⟨_, rfl, _, _, _, [], _, [], hW', trodAll_mk1 (shut_bool Uagg.underlying4 _), (trodAll_cons_mk (Below.trod laidOut (by kernel_rfl) (of_decide_eq_true (by kernel_rfl)) k0 bel lt0) trodAll_mk0), rfl, bel.frame _, fun h => by cases h⟩

theorem over : Rows.fnSliceReverseInvolutionRow.holds Uagg.pinned (OpenSpec.ofChange Rows.fnSliceReverseInvolutionSpec) :=
  OpenClaim.holds_of_wide 4 Uagg.f4 rfl rfl rfl rfl rfl rfl rfl ⟨rfl, rfl, rfl, rfl, rfl⟩ rfl rfl rfl rfl rfl (by kernel_rfl) Uagg.func4 (by kernel_rfl)
    (of_decide_eq_true (by kernel_rfl)) (by unfold Func.isWrapper; first | (rw [if_pos (by decide +kernel)]; kernel_rfl) | (rw [if_neg (by decide +kernel)]; exact ⟨rfl, rfl⟩))
    (fun os started H enc _ => lifted os started H enc)

/-- ████ THE STATEMENT ████ -/
theorem proved : Rows.FnSliceReverseInvolutionSaid := over
#print axioms proved
end Go.Proofs.Youagw.fnSliceReverseInvolution
