/-
  CONTRACTS: errors.New, computeSliceParams, ZZcomputeSliceParams.
-/
import Derived.Test.YouagwInts
import Derived.Deep.QuietTactic
import Derived.BigQuiet
namespace Go.Proofs.Youagw.Params
open Go.RowKit
open Go.Proofs.Youagw.Plain Go.Proofs.Youagw.Ints

theorem new_any (s : ByteArray) (w : World) :
    Calls Uagg.prog 32 #[.string s] w fun e w' => e = .returned (.iface 61 (.pointer (some ⟨w.heap.size, 0, none⟩))) ∧ w' = w.alloc (.cells #[.string s] 63) := by
  go_enter Uagg.func32, Uagg.ntmps32
  go_wp2
  go_ret
  exact ⟨rfl, rfl⟩

/-- The step is given and 0: an error. -/
theorem csp_zero (n : Int) (b : Nat) (w : World)
    (c4 : w.cell? ⟨b, 4, none⟩ = some (.int .i64 0)) (c5 : w.cell? ⟨b, 5, none⟩ = some (.bool true)) :
    Calls Uagg.prog 30 #[.int .i64 n, .slice (some ⟨b, 0, none⟩) 3 3] w fun e w' => ∃ t x c u, e = .returned (.tuple #[.slice none 0 0, .iface t x]) ∧ w' = w.alloc (.cells c u) := by
  go_enter Uagg.func30, Uagg.ntmps30
  go_wp2_with (go_at_call 32; refine (new_any _ _).mono ?_; rintro e w' ⟨rfl, rfl⟩)
  go_ret2
  exact ⟨_, _, _, _, rfl, rfl⟩

/-- No step is given: it is 1. -/
theorem csp_one (n start stop : Int) (hs he : Bool) (b : Nat) (w : World) (hn : 0 ≤ n) (hn2 : n ≤ 9223372036854775807)
    (ha : -9223372036854775808 ≤ start) (ha2 : start ≤ 9223372036854775807) (hb : -9223372036854775808 ≤ stop) (hb2 : stop ≤ 9223372036854775807)
    (c0 : w.cell? ⟨b, 0, none⟩ = some (.int .i64 start)) (c1 : w.cell? ⟨b, 1, none⟩ = some (.bool hs)) (c2 : w.cell? ⟨b, 2, none⟩ = some (.int .i64 stop)) (c3 : w.cell? ⟨b, 3, none⟩ = some (.bool he))
    (c5 : w.cell? ⟨b, 5, none⟩ = some (.bool false)) :
    Calls Uagg.prog 30 #[.int .i64 n, .slice (some ⟨b, 0, none⟩) 3 3] w fun e w' => e = .returned (.tuple #[.slice (some ⟨w.heap.size, 0, none⟩) 3 3, .nilIface]) ∧
      w' = w.alloc (.cells #[.int .i64 (endI n start 1 hs true), .int .i64 (endI n stop 1 he false), .int .i64 1] 3) := by
  cases hs <;> cases he
  · go_enter Uagg.func30, Uagg.ntmps30
    go_wp2
    go_ret2
    exact ⟨rfl, rfl⟩
  all_goals
    go_enter Uagg.func30, Uagg.ntmps30
    go_wp2_with (go_at_call 31; refine (cap_any _ _ _ _ (by omega) (by omega) (by omega) (by omega)).mono ?_; rintro e w' ⟨rfl, rfl⟩)
    go_ret2
    exact ⟨rfl, rfl⟩
/-- A step is given, not 0. -/
theorem csp_step (n start stop step : Int) (hs he : Bool) (b : Nat) (w : World) (hn : 0 ≤ n) (hn2 : n ≤ 9223372036854775807)
    (ha : -9223372036854775808 ≤ start) (ha2 : start ≤ 9223372036854775807) (hb : -9223372036854775808 ≤ stop) (hb2 : stop ≤ 9223372036854775807) (hz : (step == 0) = false)
    (c0 : w.cell? ⟨b, 0, none⟩ = some (.int .i64 start)) (c1 : w.cell? ⟨b, 1, none⟩ = some (.bool hs)) (c2 : w.cell? ⟨b, 2, none⟩ = some (.int .i64 stop)) (c3 : w.cell? ⟨b, 3, none⟩ = some (.bool he))
    (c4 : w.cell? ⟨b, 4, none⟩ = some (.int .i64 step)) (c5 : w.cell? ⟨b, 5, none⟩ = some (.bool true)) :
    Calls Uagg.prog 30 #[.int .i64 n, .slice (some ⟨b, 0, none⟩) 3 3] w fun e w' => e = .returned (.tuple #[.slice (some ⟨w.heap.size, 0, none⟩) 3 3, .nilIface]) ∧
      w' = w.alloc (.cells #[.int .i64 (endI n start step hs true), .int .i64 (endI n stop step he false), .int .i64 step] 3) := by
  by_cases hneg : step < 0
  all_goals
    cases hs <;> cases he
    all_goals
      simp only [endI, hneg, if_true, if_false, Bool.false_eq_true]
      go_enter Uagg.func30, Uagg.ntmps30
      go_wp2_with (go_at_call 31; refine (cap_any _ _ _ _ (by omega) (by omega) (by omega) (by omega)).mono ?_; rintro e w' ⟨rfl, rfl⟩)
      go_ret2
      exact ⟨rfl, rfl⟩
end Go.Proofs.Youagw.Params
