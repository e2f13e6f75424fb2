/-
  CONTRACTS OF THE SEAT's FUNCTIONS OVER INTEGERS: capSlice, ZZcapSlice, zzClamp, zzPyEnd.
-/
import Derived.Test.YouagwChecked
import Derived.Test.YouagwPlain
import Derived.WalkKit
namespace Go.Proofs.Youagw.Ints
open Go.RowKit
open Go.Proofs.Youagw.Plain

theorem cap_any (n a s : Int) (w : World) (hn : 0 ≤ n) (hn2 : n ≤ 9223372036854775807) (ha : -9223372036854775808 ≤ a) (ha2 : a ≤ 9223372036854775807) :
    Calls Uagg.prog 31 #[.int .i64 n, .int .i64 a, .int .i64 s] w fun e w' => e = .returned (.int .i64 (capI n a s)) ∧ w' = w := by
  unfold capI
  by_cases h1 : a < 0
  · by_cases h2 : a + n < 0
    · by_cases h3 : s < 0
      · rw [if_pos h1, if_pos h2, if_pos h3]
        go_enter Uagg.func31, Uagg.ntmps31
        go_wp2
        go_ret
        exact ⟨rfl, rfl⟩
      · rw [if_pos h1, if_pos h2, if_neg h3]
        go_enter Uagg.func31, Uagg.ntmps31
        go_wp2
        go_ret
        exact ⟨rfl, rfl⟩
    · rw [if_pos h1, if_neg h2]
      go_enter Uagg.func31, Uagg.ntmps31
      go_wp2
      go_ret
      exact ⟨rfl, rfl⟩
  · by_cases h2 : n ≤ a
    · by_cases h3 : s < 0
      · rw [if_neg h1, if_pos h2, if_pos h3]
        go_enter Uagg.func31, Uagg.ntmps31
        go_wp2
        go_ret
        exact ⟨rfl, rfl⟩
      · rw [if_neg h1, if_pos h2, if_neg h3]
        go_enter Uagg.func31, Uagg.ntmps31
        go_wp2
        go_ret
        exact ⟨rfl, rfl⟩
    · rw [if_neg h1, if_neg h2]
      go_enter Uagg.func31, Uagg.ntmps31
      go_wp2
      go_ret
      exact ⟨rfl, rfl⟩

theorem zzcap_any (n a s : Int) (w : World) (hn : 0 ≤ n) (hn2 : n ≤ 9223372036854775807) (ha : -9223372036854775808 ≤ a) (ha2 : a ≤ 9223372036854775807) :
    Calls Uagg.prog 19 #[.int .i64 n, .int .i64 a, .int .i64 s] w fun e w' => e = .returned (.int .i64 (capI n a s)) ∧ w' = w := by
  go_enter Uagg.func19, Uagg.ntmps19
  go_wp2_with (go_at_call 31; refine (cap_any _ _ _ _ hn hn2 ha ha2).mono ?_; rintro e w' ⟨rfl, rfl⟩)
  go_ret
  exact ⟨rfl, rfl⟩

theorem clamp_any (v lo hi : Int) (w : World) :
    Calls Uagg.prog 29 #[.int .i64 v, .int .i64 lo, .int .i64 hi] w fun e w' => e = .returned (.int .i64 (clampI v lo hi)) ∧ w' = w := by
  unfold clampI
  by_cases h1 : v < lo
  · rw [if_pos h1]
    go_enter Uagg.func29, Uagg.ntmps29
    go_wp2
    go_ret
    exact ⟨rfl, rfl⟩
  · by_cases h2 : hi < v
    · rw [if_neg h1, if_pos h2]
      go_enter Uagg.func29, Uagg.ntmps29
      go_wp2
      go_ret
      exact ⟨rfl, rfl⟩
    · rw [if_neg h1, if_neg h2]
      go_enter Uagg.func29, Uagg.ntmps29
      go_wp2
      go_ret
      exact ⟨rfl, rfl⟩

theorem py_any (n v : Int) (has neg st : Bool) (w : World) (hn : 0 ≤ n) (hn2 : n ≤ 9223372036854775807) (ha : -9223372036854775808 ≤ v) (ha2 : v ≤ 9223372036854775807) :
    Calls Uagg.prog 14 #[.int .i64 n, .int .i64 v, .bool has, .bool neg, .bool st] w fun e w' => e = .returned (.int .i64 (pyEnd n v has neg st)) ∧ w' = w := by
  cases has with
  | false =>
    cases st <;> cases neg <;>
    · go_enter Uagg.func14, Uagg.ntmps14
      go_wp2
      go_ret
      exact ⟨rfl, rfl⟩
  | true =>
    by_cases h1 : v < 0
    · cases neg with
      | true =>
        have e1 : pyEnd n v true true st = clampI (v + n) (-1) (n - 1) := by simp [pyEnd, h1]
        rw [e1]
        clear e1
        go_enter Uagg.func14, Uagg.ntmps14
        go_wp2_with (go_at_call 29; refine (clamp_any _ _ _ _).mono ?_; rintro e w' ⟨rfl, rfl⟩)
        go_ret
        exact ⟨rfl, rfl⟩
      | false =>
        have e1 : pyEnd n v true false st = clampI (v + n) 0 n := by simp [pyEnd, h1]
        rw [e1]
        clear e1
        go_enter Uagg.func14, Uagg.ntmps14
        go_wp2_with (go_at_call 29; refine (clamp_any _ _ _ _).mono ?_; rintro e w' ⟨rfl, rfl⟩)
        go_ret
        exact ⟨rfl, rfl⟩
    · cases neg with
      | true =>
        have e1 : pyEnd n v true true st = clampI v (-1) (n - 1) := by simp [pyEnd, h1]
        rw [e1]
        clear e1
        go_enter Uagg.func14, Uagg.ntmps14
        go_wp2_with (go_at_call 29; refine (clamp_any _ _ _ _).mono ?_; rintro e w' ⟨rfl, rfl⟩)
        go_ret
        exact ⟨rfl, rfl⟩
      | false =>
        have e1 : pyEnd n v true false st = clampI v 0 n := by simp [pyEnd, h1]
        rw [e1]
        clear e1
        go_enter Uagg.func14, Uagg.ntmps14
        go_wp2_with (go_at_call 29; refine (clamp_any _ _ _ _).mono ?_; rintro e w' ⟨rfl, rfl⟩)
        go_ret
        exact ⟨rfl, rfl⟩

end Go.Proofs.Youagw.Ints
