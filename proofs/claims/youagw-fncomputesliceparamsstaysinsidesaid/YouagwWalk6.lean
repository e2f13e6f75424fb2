/-
  THE WALK of FnComputeSliceParamsStaysInside.
-/
import Derived.Test.YouagwParamsZ
namespace Go.Proofs.Youagw.Params
open Go.RowKit
open Go.Proofs.Youagw.Plain Go.Proofs.Youagw.Ints

theorem tdiv_neg_bounds (x d : Int) (hx : x ≤ 0) (hd : d < 0) : 0 ≤ x.tdiv d ∧ x.tdiv d ≤ -x := by
  obtain ⟨y, rfl⟩ : ∃ y, x = -y := ⟨-x, by omega⟩
  obtain ⟨e, rfl⟩ : ∃ e, d = -e := ⟨-d, by omega⟩
  have h : (-y).tdiv (-e) = y / e := by
    rw [Int.tdiv_neg, Int.neg_tdiv, Int.neg_neg, Int.tdiv_eq_ediv_of_nonneg (by omega)]
  rw [h]
  exact ⟨Int.ediv_nonneg (by omega) (by omega), by have := Int.ediv_le_self (a := y) e (by omega); omega⟩

set_option maxHeartbeats 800000 in
theorem walk6_one (a0 : Int) (a1 : Int) (a2 : Int) (a3 : Int) (a4 : Bool) (a5 : Bool) (w : World)
    (b0 : a0 ≤ 9223372036854775807) (b1 : -9223372036854775808 ≤ a1) (b1' : a1 ≤ 9223372036854775807) (b2 : -9223372036854775808 ≤ a2) (b2' : a2 ≤ 9223372036854775807) (hn' : 0 ≤ a0) :
    Calls Uagg.prog 6 #[.int .i64 a0, .int .i64 a1, .int .i64 a2, .int .i64 a3, .bool a4, .bool a5, .bool false] w fun e w' => e = .returned (.bool true) ∧ Grown w w' := by
  obtain ⟨r1, r2⟩ := (endI_range a0 a1 1 a4 true hn').2 (by omega)
  obtain ⟨r3, r4⟩ := (endI_range a0 a2 1 a5 false hn').2 (by omega)
  by_cases hlt : endI a0 a1 1 a4 true < endI a0 a2 1 a5 false
  · go_enter Uagg.func6, Uagg.ntmps6
    go_wp2_with (go_at_call 18; refine (zzcsp_one _ _ _ _ _ _ _ (by omega) (by omega) (by omega) (by omega) (by omega) (by omega)).mono ?_; rintro e w' ⟨rfl, hg⟩)
    go_ret
    exact ⟨rfl, by assumption⟩
  · go_enter Uagg.func6, Uagg.ntmps6
    go_wp2_with (go_at_call 18; refine (zzcsp_one _ _ _ _ _ _ _ (by omega) (by omega) (by omega) (by omega) (by omega) (by omega)).mono ?_; rintro e w' ⟨rfl, hg⟩)
    go_ret
    exact ⟨rfl, by assumption⟩
set_option maxHeartbeats 800000 in
theorem walk6_pos (a0 : Int) (a1 : Int) (a2 : Int) (a3 : Int) (a4 : Bool) (a5 : Bool) (w : World)
    (b0 : a0 ≤ 9223372036854775807) (b1 : -9223372036854775808 ≤ a1) (b1' : a1 ≤ 9223372036854775807) (b2 : -9223372036854775808 ≤ a2) (b2' : a2 ≤ 9223372036854775807) (hn' : 0 ≤ a0) (hp : 0 < a3) (b3 : a3 ≤ 9223372036854775807) :
    Calls Uagg.prog 6 #[.int .i64 a0, .int .i64 a1, .int .i64 a2, .int .i64 a3, .bool a4, .bool a5, .bool true] w fun e w' => e = .returned (.bool true) ∧ Grown w w' := by
  obtain ⟨r1, r2⟩ := (endI_range a0 a1 a3 a4 true hn').2 (by omega)
  obtain ⟨r3, r4⟩ := (endI_range a0 a2 a3 a5 false hn').2 (by omega)
  have hz' : (a3 == 0) = false := by simp; omega
  by_cases hlt : endI a0 a1 a3 a4 true < endI a0 a2 a3 a5 false
  · have d1 : 0 ≤ (endI a0 a2 a3 a5 false - endI a0 a1 a3 a4 true - 1) / a3 := Int.ediv_nonneg (by omega) (by omega)
    have d2 : (endI a0 a2 a3 a5 false - endI a0 a1 a3 a4 true - 1) / a3 ≤ endI a0 a2 a3 a5 false - endI a0 a1 a3 a4 true - 1 := Int.ediv_le_self _ (by omega)
    go_enter Uagg.func6, Uagg.ntmps6
    go_wp2_with (go_at_call 18; refine (zzcsp_step _ _ _ _ _ _ _ (by omega) (by omega) (by omega) (by omega) (by omega) (by omega) hz').mono ?_; rintro e w' ⟨rfl, hg⟩)
    go_ret
    exact ⟨rfl, by assumption⟩
  · go_enter Uagg.func6, Uagg.ntmps6
    go_wp2_with (go_at_call 18; refine (zzcsp_step _ _ _ _ _ _ _ (by omega) (by omega) (by omega) (by omega) (by omega) (by omega) hz').mono ?_; rintro e w' ⟨rfl, hg⟩)
    go_ret
    exact ⟨rfl, by assumption⟩

set_option maxHeartbeats 800000 in
theorem walk6_neg (a0 : Int) (a1 : Int) (a2 : Int) (a3 : Int) (a4 : Bool) (a5 : Bool) (w : World)
    (b0 : a0 ≤ 9223372036854775807) (b1 : -9223372036854775808 ≤ a1) (b1' : a1 ≤ 9223372036854775807) (b2 : -9223372036854775808 ≤ a2) (b2' : a2 ≤ 9223372036854775807) (hn' : 0 ≤ a0) (hp : a3 < 0) (b3 : -9223372036854775808 ≤ a3) :
    Calls Uagg.prog 6 #[.int .i64 a0, .int .i64 a1, .int .i64 a2, .int .i64 a3, .bool a4, .bool a5, .bool true] w fun e w' => e = .returned (.bool true) ∧ Grown w w' := by
  obtain ⟨r1, r2⟩ := (endI_range a0 a1 a3 a4 true hn').1 (by omega)
  obtain ⟨r3, r4⟩ := (endI_range a0 a2 a3 a5 false hn').1 (by omega)
  have hz' : (a3 == 0) = false := by simp; omega
  by_cases hlt : endI a0 a2 a3 a5 false < endI a0 a1 a3 a4 true
  · obtain ⟨d1, d2⟩ := tdiv_neg_bounds (endI a0 a2 a3 a5 false - endI a0 a1 a3 a4 true + 1) a3 (by omega) hp
    go_enter Uagg.func6, Uagg.ntmps6
    go_wp2_with (go_at_call 18; refine (zzcsp_step _ _ _ _ _ _ _ (by omega) (by omega) (by omega) (by omega) (by omega) (by omega) hz').mono ?_; rintro e w' ⟨rfl, hg⟩)
    go_ret
    exact ⟨rfl, by assumption⟩
  · go_enter Uagg.func6, Uagg.ntmps6
    go_wp2_with (go_at_call 18; refine (zzcsp_step _ _ _ _ _ _ _ (by omega) (by omega) (by omega) (by omega) (by omega) (by omega) hz').mono ?_; rintro e w' ⟨rfl, hg⟩)
    go_ret
    exact ⟨rfl, by assumption⟩

theorem walk6 (a0 : Int) (a1 : Int) (a2 : Int) (a3 : Int) (a4 : Bool) (a5 : Bool) (a6 : Bool) (w : World)
    (b0 : a0 ≤ 9223372036854775807) (b1 : -9223372036854775808 ≤ a1) (b1' : a1 ≤ 9223372036854775807) (b2 : -9223372036854775808 ≤ a2) (b2' : a2 ≤ 9223372036854775807) (b3 : -9223372036854775808 ≤ a3) (b3' : a3 ≤ 9223372036854775807) :
    Calls Uagg.prog 6 #[.int .i64 a0, .int .i64 a1, .int .i64 a2, .int .i64 a3, .bool a4, .bool a5, .bool a6] w fun e w' => e = .returned (.bool true) ∧ Grown w w' := by
  by_cases hn : a0 < 0
  · go_enter Uagg.func6, Uagg.ntmps6
    go_wp2
    go_ret
    exact ⟨rfl, Grown.refl _⟩
  have hn' : 0 ≤ a0 := by omega
  cases a6 with
  | false => exact walk6_one a0 a1 a2 a3 a4 a5 w b0 b1 b1' b2 b2' hn'
  | true =>
    by_cases hz : a3 = 0
    · subst hz
      go_enter Uagg.func6, Uagg.ntmps6
      go_wp2_with (go_at_call 18; refine (zzcsp_zero _ _ _ _ _ _).mono ?_; rintro e w' ⟨rfl, hg⟩)
      go_ret
      exact ⟨rfl, by assumption⟩
    · by_cases hneg : a3 < 0
      · exact walk6_neg a0 a1 a2 a3 a4 a5 w b0 b1 b1' b2 b2' hn' hneg b3
      · exact walk6_pos a0 a1 a2 a3 a4 a5 w b0 b1 b1' b2 b2' hn' (by omega) b3'
end Go.Proofs.Youagw.Params
