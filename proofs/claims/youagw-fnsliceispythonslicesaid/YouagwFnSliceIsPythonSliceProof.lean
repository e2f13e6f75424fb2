/-
  A PROOF OF 'Rows.FnSliceIsPythonSliceSaid'. The frame is after the guide's shell for a law over slices, turned to a []float64, three ints and three bools.
-/
import Derived.Test.YouagwRows
import Derived.Test.YouagwOpen
import Derived.Test.YouagwWalk3o
import Derived.Test.YouagwWalk3d
import Derived.WalkKit
import Derived.ProofKit
import Derived.OpenShut
import Derived.ShutString
import Derived.ChangeOld
import Derived.Below
namespace Go.Proofs.Youagw.fnSliceIsPythonSlice
open Go.ChangeShapes Go.WideShapes Go.ChangeAt Go.RowKit
open Go.Proofs.Youagw.Clone Go.Proofs.Youagw.Open Go.Proofs.Youagw.Rd
set_option linter.unusedVariables false

theorem own : ownKnob Uagg.prog.godebug = none := by kernel_rfl
theorem laidOut : laidOutB Uagg.prog = true := by kernel_rfl

theorem walk (a : Option Addr) (l c : Nat) (start stop step : Int) (hs he hp : Bool) (w : World) (h : ∃ xs, Came w a l c xs)
    (w1 : (Lit.int .i64 start).wf = true) (w2 : (Lit.int .i64 stop).wf = true) (w3 : (Lit.int .i64 step).wf = true) :
    Calls Uagg.prog 3 #[.slice a l c, .int .i64 start, .int .i64 stop, .int .i64 step, .bool hs, .bool he, .bool hp] w fun e w' => e = .returned (.bool true) ∧ Below w.heap.size w w' := by
  obtain ⟨xs, h⟩ := h
  obtain ⟨b1, b1'⟩ := bounds_i64 w1
  obtain ⟨b2, b2'⟩ := bounds_i64 w2
  obtain ⟨b3, b3'⟩ := bounds_i64 w3
  by_cases hl : 131072 < l
  · exact (early3_len a l c start stop step hs he hp w h.max hl).mono fun e w' ⟨h1, h2⟩ => ⟨h1, h2 ▸ Below.refl _ _⟩
  cases hp with
  | false => exact walk3_one a l c xs start stop step hs he w (by omega) h b1 b1' b2 b2'
  | true =>
    by_cases hm : 9223372036854513663 < step
    · exact (early3_step a l c start stop step hs he w (by omega) hm).mono fun e w' ⟨h1, h2⟩ => ⟨h1, h2 ▸ Below.refl _ _⟩
    by_cases hz : step = 0
    · subst hz
      exact walk3_zero a l c xs start stop hs he w (by omega) h
    by_cases hn : step < 0
    · exact walk3_neg a l c xs start stop step hs he w (by omega) h b1 b1' b2 b2' hn b3
    · exact walk3_pos a l c xs start stop step hs he w (by omega) h b1 b1' b2 b2' (by omega) (by omega)

set_option maxRecDepth 100000 in
theorem lifted (os : Os) (started : os.Started) (H : Type) (enc : TypeId × Value → H) :
    ReturnsInHanded {} Uagg.checked os 3 .any (Rows.fnSliceIsPythonSliceSpec.pre6 enc Uagg.prog Uagg.f3 Rows.fnSliceIsPythonSliceRow.domain false) (Rows.fnSliceIsPythonSliceSpec.post enc Uagg.prog Uagg.f3 false true false false) := by
  refine returnsInHanded_of_change (C := Uagg.checked) own started (by kernel_rfl) Uagg.func3
    (ChangeSpec.witness6 (enc := enc) (C := Uagg.checked) false ⟨#[], #[.slice none 0 0, .int .i64 0, .int .i64 0, .int .i64 0, .bool false, .bool false, .bool false], []⟩ 8 (by kernel_rfl) (by kernel_rfl) (by kernel_rfl) (by kernel_rfl)) ?_
  intro W base args ds gs before hval0 hW hcnd _
  have hval : ∀ (j : Nat) t v, Uagg.f3.params[j]? = some t → args[j]? = some v → Value.okWide Uagg.prog W .any base t v := hval0
  have hW' := hW
  obtain ⟨p, q, hA0, hV, rfl, hfz, hnd⟩ := hW
  have hA : DataW.TrodAll enc Uagg.prog W 0 (fun _ => true) true Uagg.f3.params.toList args.toList ds p := hA0
  rw [Uagg.params3] at hA hval
  obtain ⟨v0, vs0, d0, ds0, p0, q0, hargs, rfl, rfl, h0, r0⟩ := trodAll_cons hA
  obtain ⟨v1, vs1, d1, ds1, p1, q1, rfl, rfl, rfl, h1, r1⟩ := trodAll_cons r0
  obtain ⟨v2, vs2, d2, ds2, p2, q2, rfl, rfl, rfl, h2, r2⟩ := trodAll_cons r1
  obtain ⟨v3, vs3, d3, ds3, p3, q3, rfl, rfl, rfl, h3, r3⟩ := trodAll_cons r2
  obtain ⟨v4, vs4, d4, ds4, p4, q4, rfl, rfl, rfl, h4, r4⟩ := trodAll_cons r3
  obtain ⟨v5, vs5, d5, ds5, p5, q5, rfl, rfl, rfl, h5, r5⟩ := trodAll_cons r4
  obtain ⟨v6, vs6, d6, ds6, p6, q6, rfl, rfl, rfl, h6, r6⟩ := trodAll_cons r5
  obtain ⟨rfl, rfl, rfl⟩ := trodAll_nil r6
  obtain rfl : args = #[v0, v1, v2, v3, v4, v5, v6] := by cases args; simp_all
  obtain ⟨rfl, rfl⟩ := trodVars_none hV
  obtain ⟨a0, len0, cap0, rfl⟩ := okWide_slice Uagg.underlying22 (hval 0 22 v0 rfl rfl)
  have k0 := h0
  have lt0 : ∀ x ∈ p0, x.block < W.heap.size := by obtain ⟨m, hm⟩ := k0; exact DataW.trod_lt m _ _ _ hm
  obtain ⟨a1, rfl, rfl, rfl, w1⟩ := open_int Uagg.underlying3 (hval 1 3 v1 rfl rfl) h1
  obtain ⟨a2, rfl, rfl, rfl, w2⟩ := open_int Uagg.underlying3 (hval 2 3 v2 rfl rfl) h2
  obtain ⟨a3, rfl, rfl, rfl, w3⟩ := open_int Uagg.underlying3 (hval 3 3 v3 rfl rfl) h3
  obtain ⟨a4, rfl, rfl, rfl⟩ := open_bool Uagg.underlying4 (hval 4 4 v4 rfl rfl) h4
  obtain ⟨a5, rfl, rfl, rfl⟩ := open_bool Uagg.underlying4 (hval 5 4 v5 rfl rfl) h5
  obtain ⟨a6, rfl, rfl, rfl⟩ := open_bool Uagg.underlying4 (hval 6 4 v6 rfl rfl) h6
  have wlk : Calls Uagg.prog 3 #[.slice a0 len0 cap0, .int .i64 a1, .int .i64 a2, .int .i64 a3, .bool a4, .bool a5, .bool a6] W fun e w' => e = .returned (.bool true) ∧ Below W.heap.size W w' := by
    refine walk a0 len0 cap0 a1 a2 a3 a4 a5 a6 W ?_ w1 w2 w3
    obtain ⟨fuel, hf⟩ := h0
    rcases open_floats Uagg.underlying22 Uagg.underlying29 (by kernel_rfl) (by simpa [Value.cells] using hf) with ⟨h1, h2, h3⟩ | ⟨ad, xs, h1, hm, hl, hc⟩
    · exact ⟨[], .inl ⟨h1, h2, h3, rfl⟩⟩
    · exact ⟨xs, .inr ⟨ad, h1, hm, hl, hc⟩⟩
  clear hA0 hval0
  refine wlk.mono fun e W' ⟨he, bel⟩ => ?_
  subst he
  exact ⟨_, rfl, _, _, _, [], _, [], hW', trodAll_mk1 (shut_bool Uagg.underlying4 _), (trodAll_cons_mk (Below.trod laidOut (by kernel_rfl) (of_decide_eq_true (by kernel_rfl)) k0 bel lt0) (trodAll_cons_mk (shut_int Uagg.underlying3 w1) (trodAll_cons_mk (shut_int Uagg.underlying3 w2) (trodAll_cons_mk (shut_int Uagg.underlying3 w3) (trodAll_cons_mk (shut_bool Uagg.underlying4 _) (trodAll_cons_mk (shut_bool Uagg.underlying4 _) (trodAll_cons_mk (shut_bool Uagg.underlying4 _) trodAll_mk0))))))), rfl, bel.frame _, fun h => by cases h⟩

theorem over : Rows.fnSliceIsPythonSliceRow.holds Uagg.pinned (OpenSpec.ofChange Rows.fnSliceIsPythonSliceSpec) :=
  OpenClaim.holds_of_wide 3 Uagg.f3 rfl rfl rfl rfl rfl rfl rfl ⟨rfl, rfl, rfl, rfl, rfl⟩ rfl rfl rfl rfl rfl (by kernel_rfl) Uagg.func3 (by kernel_rfl)
    (of_decide_eq_true (by kernel_rfl)) (by unfold Func.isWrapper; first | (rw [if_pos (by decide +kernel)]; kernel_rfl) | (rw [if_neg (by decide +kernel)]; exact ⟨rfl, rfl⟩))
    (fun os started H enc _ => lifted os started H enc)

/-- ████ THE STATEMENT ████ -/
theorem proved : Rows.FnSliceIsPythonSliceSaid := over
#print axioms proved
end Go.Proofs.Youagw.fnSliceIsPythonSlice
