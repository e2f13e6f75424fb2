/-
  THE WALK of FnComputeSliceParamsClosedForm.
-/
import Derived.Test.YouagwParamsZ
namespace Go.Proofs.Youagw.Params
open Go.RowKit
open Go.Proofs.Youagw.Plain Go.Proofs.Youagw.Ints

theorem e_neg (n v st : Int) (hn : 0 ≤ n) (has b : Bool) (h : st < 0) : (endI n v st has b == pyEnd n v has true b) = true := by
  rw [endI_py n v st hn, decide_eq_true h]; simp
theorem e_pos (n v st : Int) (hn : 0 ≤ n) (has b : Bool) (h : ¬ st < 0) : (endI n v st has b == pyEnd n v has false b) = true := by
  rw [endI_py n v st hn, decide_eq_false h]; simp

set_option maxHeartbeats 800000 in
theorem walk5 (a0 : Int) (a1 : Int) (a2 : Int) (a3 : Int) (a4 : Bool) (a5 : Bool) (a6 : Bool) (w : World)
    (b0 : a0 ≤ 9223372036854775807) (b1 : -9223372036854775808 ≤ a1) (b1' : a1 ≤ 9223372036854775807) (b2 : -9223372036854775808 ≤ a2) (b2' : a2 ≤ 9223372036854775807) :
    Calls Uagg.prog 5 #[.int .i64 a0, .int .i64 a1, .int .i64 a2, .int .i64 a3, .bool a4, .bool a5, .bool a6] w fun e w' => e = .returned (.bool true) ∧ Grown w w' := by
  by_cases hn : a0 < 0
  · go_enter Uagg.func5, Uagg.ntmps5
    go_wp2
    go_ret
    exact ⟨rfl, Grown.refl _⟩
  have hn' : 0 ≤ a0 := by omega
  cases a6 with
  | false =>
    have q1 := e_pos a0 a1 1 hn' a4 true (by omega)
    have q2 := e_pos a0 a2 1 hn' a5 false (by omega)
    go_enter Uagg.func5, Uagg.ntmps5
    go_wp2_with (first | (go_at_call 18; refine (zzcsp_one _ _ _ _ _ _ _ (by omega) (by omega) (by omega) (by omega) (by omega) (by omega)).mono ?_; rintro e w' ⟨rfl, hg⟩) | (go_at_call 14; refine (py_any _ _ _ _ _ _ (by omega) (by omega) (by omega) (by omega)).mono ?_; rintro e w' ⟨rfl, rfl⟩))
    go_ret
    exact ⟨rfl, by assumption⟩
  | true =>
    by_cases hz : a3 = 0
    · subst hz
      go_enter Uagg.func5, Uagg.ntmps5
      go_wp2_with (go_at_call 18; refine (zzcsp_zero _ _ _ _ _ _).mono ?_; rintro e w' ⟨rfl, hg⟩)
      go_ret
      exact ⟨rfl, by assumption⟩
    · have hz' : (a3 == 0) = false := by simpa using hz
      have q3 : (a3 == a3) = true := by simp
      by_cases hneg : a3 < 0
      · have q1 := e_neg a0 a1 a3 hn' a4 true hneg
        have q2 := e_neg a0 a2 a3 hn' a5 false hneg
        clear hz
        go_enter Uagg.func5, Uagg.ntmps5
        go_wp2_with (first | (go_at_call 18; refine (zzcsp_step _ _ _ _ _ _ _ (by omega) (by omega) (by omega) (by omega) (by omega) (by omega) hz').mono ?_; rintro e w' ⟨rfl, hg⟩) | (go_at_call 14; refine (py_any _ _ _ _ _ _ (by omega) (by omega) (by omega) (by omega)).mono ?_; rintro e w' ⟨rfl, rfl⟩))
        go_ret
        exact ⟨rfl, by assumption⟩
      · have q1 := e_pos a0 a1 a3 hn' a4 true hneg
        have q2 := e_pos a0 a2 a3 hn' a5 false hneg
        have hd : decide (a3 < 0) = false := decide_eq_false hneg
        clear hz
        go_enter Uagg.func5, Uagg.ntmps5
        go_wp2_with (first | (go_at_call 18; refine (zzcsp_step _ _ _ _ _ _ _ (by omega) (by omega) (by omega) (by omega) (by omega) (by omega) hz').mono ?_; rintro e w' ⟨rfl, hg⟩) | (go_at_call 14; refine (py_any _ _ _ _ _ _ (by omega) (by omega) (by omega) (by omega)).mono ?_; rintro e w' ⟨rfl, rfl⟩))
        go_ret
        exact ⟨rfl, by assumption⟩
end Go.Proofs.Youagw.Params
