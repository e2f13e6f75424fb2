/-
  CONTRACT: ZZcomputeSliceParams.
-/
import Derived.Test.YouagwParams
namespace Go.Proofs.Youagw.Params
open Go.RowKit
open Go.Proofs.Youagw.Plain Go.Proofs.Youagw.Ints

theorem results_tmp4 {fn : Func} {t u v x : Tmp} (h : fn.results = #[.tmp t, .tmp u, .tmp v, .tmp x]) (tmps : Array Value) (P : Program) (w : World) :
    (results fn tmps).run P w = .ok (.tuple #[tmps.getD t undef, tmps.getD u undef, tmps.getD v undef, tmps.getD x undef]) w := by
  simp [results, h]

theorem grown_drewN {W w' : World} (h : Grown W w') (n : Nat) : Grown W (w'.drewN n) := h

set_option maxHeartbeats 400000 in
theorem zzcsp_zero (n start stop : Int) (hs he : Bool) (w : World) :
    Calls Uagg.prog 18 #[.int .i64 n, .int .i64 start, .int .i64 stop, .int .i64 0, .bool hs, .bool he, .bool true] w fun e w' =>
      e = .returned (.tuple #[.int .i64 0, .int .i64 0, .int .i64 0, .bool true]) ∧ Grown w w' := by
  go_enter Uagg.func18, Uagg.ntmps18
  go_wp2_with (go_at_call 30; refine (csp_zero _ _ _ (by simp) (by simp)).mono ?_; rintro e w' ⟨t, x, c, u, rfl, rfl⟩)
  (try simp only [Exit.inBlock, Exit.then]); refine bodyPost_ret (results_tmp4 rfl _ _ _) rfl ?_
  exact ⟨rfl, ((Grown.refl _).alloc _ _).alloc _ _⟩

set_option maxHeartbeats 400000 in
theorem zzcsp_one (n start stop step : Int) (hs he : Bool) (w : World) (hn : 0 ≤ n) (hn2 : n ≤ 9223372036854775807)
    (ha : -9223372036854775808 ≤ start) (ha2 : start ≤ 9223372036854775807) (hb : -9223372036854775808 ≤ stop) (hb2 : stop ≤ 9223372036854775807) :
    Calls Uagg.prog 18 #[.int .i64 n, .int .i64 start, .int .i64 stop, .int .i64 step, .bool hs, .bool he, .bool false] w fun e w' =>
      e = .returned (.tuple #[.int .i64 (endI n start 1 hs true), .int .i64 (endI n stop 1 he false), .int .i64 1, .bool false]) ∧ Grown w w' := by
  go_enter Uagg.func18, Uagg.ntmps18
  go_wp2_with (go_at_call 30; refine (csp_one _ start stop hs he _ _ hn hn2 ha ha2 hb hb2 (by simp) (by simp) (by simp) (by simp) (by simp)).mono ?_; rintro e w' ⟨rfl, rfl⟩)
  go_quiet (fail)
  go_wp2
  (try simp only [Exit.inBlock, Exit.then]); refine bodyPost_ret (results_tmp4 rfl _ _ _) rfl ?_
  exact ⟨rfl, grown_drewN (((Grown.refl _).alloc _ _).alloc _ _) _⟩

set_option maxHeartbeats 400000 in
theorem zzcsp_step (n start stop step : Int) (hs he : Bool) (w : World) (hn : 0 ≤ n) (hn2 : n ≤ 9223372036854775807)
    (ha : -9223372036854775808 ≤ start) (ha2 : start ≤ 9223372036854775807) (hb : -9223372036854775808 ≤ stop) (hb2 : stop ≤ 9223372036854775807) (hz : (step == 0) = false) :
    Calls Uagg.prog 18 #[.int .i64 n, .int .i64 start, .int .i64 stop, .int .i64 step, .bool hs, .bool he, .bool true] w fun e w' =>
      e = .returned (.tuple #[.int .i64 (endI n start step hs true), .int .i64 (endI n stop step he false), .int .i64 step, .bool false]) ∧ Grown w w' := by
  go_enter Uagg.func18, Uagg.ntmps18
  go_wp2_with (go_at_call 30; refine (csp_step _ start stop step hs he _ _ hn hn2 ha ha2 hb hb2 hz (by simp) (by simp) (by simp) (by simp) (by simp) (by simp)).mono ?_; rintro e w' ⟨rfl, rfl⟩)
  go_quiet (fail)
  go_wp2
  (try simp only [Exit.inBlock, Exit.then]); refine bodyPost_ret (results_tmp4 rfl _ _ _) rfl ?_
  exact ⟨rfl, grown_drewN (((Grown.refl _).alloc _ _).alloc _ _) _⟩
end Go.Proofs.Youagw.Params
