/-
  CONTRACT: zzEqF over two rows with the same bits.
-/
import Derived.Test.YouagwRd
namespace Go.Proofs.Youagw.Rd
open Go.RowKit
open Go.Proofs.Youagw.Lists Go.Proofs.Youagw.Clone

theorem eq_zero (a a' : Option Addr) (c c' : Nat) (w : World) :
    Calls Uagg.prog 17 #[.slice a 0 c, .slice a' 0 c'] w fun e w' => e = .returned (.bool true) ∧ w' = w := by
  go_enter Uagg.func17, Uagg.ntmps17
  go_wp2
  refine wp_loop_rounds 1 ?_; rw [rounds_succ]
  go_wp2
  go_ret
  exact ⟨rfl, rfl⟩

set_option maxHeartbeats 800000 in
theorem eq_refl (g g' n c c' : Nat) (xs : List Nat) (w : World) (hn : n ≤ 1048576) (hx : xs.length = n) (h : Rd w g (fl xs)) (h' : Rd w g' (fl xs)) :
    Calls Uagg.prog 17 #[.slice (some ⟨g, 0, none⟩) n c, .slice (some ⟨g', 0, none⟩) n c'] w fun e w' => e = .returned (.bool true) ∧ ∃ m, w' = w.drewN m := by
  have HX : Hid (xs.length = n) := hx
  have q0 : ((n : Int) != (n : Int)) = false := by simp
  clear hx
  go_enter Uagg.func17, Uagg.ntmps17
  go_wp2
  go_loopw [5] (fun i wr => ∃ k : Nat, k ≤ n ∧ i = .int .i64 k ∧ Hid (∃ m, wr = w.drewN m)) (fun i _ => n - (intOf i).toNat)
  case atStart => exact ⟨0, Nat.zero_le _, rfl, ⟨0, rfl⟩⟩
  case round =>
    obtain ⟨k, hk, rfl, hm⟩ := hrel
    by_cases hlt : k < n
    · have c1 : wr.cell? ⟨g, k, none⟩ = some (.float .f64 (xs.getD k 0)) := by obtain ⟨m, rfl⟩ := hm.out; exact h.fl k (by rw [HX.out]; exact hlt)
      have c2 : wr.cell? ⟨g', k, none⟩ = some (.float .f64 (xs.getD k 0)) := by obtain ⟨m, rfl⟩ := hm.out; exact h'.fl k (by rw [HX.out]; exact hlt)
      have hlt' : (k : Int) < (n : Int) := by omega
      clear h h'
      go_wp2
      go_quiet ((go_at_call 15; exact Calls.quiet_of_same (same_refl _ _)))
      go_wp2
      go_roundw
      case rel => exact ⟨k + 1, by omega, by go_num, by obtain ⟨m, rfl⟩ := hm.out; exact ⟨_, World.drewN_drewN _ _ _⟩⟩
      case measure => simp [intOf]; omega
    · go_wp2
      go_ret
      exact ⟨rfl, hm.out⟩
end Go.Proofs.Youagw.Rd
