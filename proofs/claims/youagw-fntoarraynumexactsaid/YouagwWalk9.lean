/-
  THE WALK of FnToArrayNumExact.
-/
import Derived.Test.YouagwKindsZ
import Derived.Test.YouagwEq
namespace Go.Proofs.Youagw.Rd
open Go.RowKit
open Go.Proofs.Youagw.Lists Go.Proofs.Youagw.Clone Go.Proofs.Youagw.Asserts

theorem neq22 : ∀ (w : World) (a : Option Addr) (n c n' c' : Nat), (binOp .neq 22 (.slice a n c) (.slice none n' c')).run Uagg.prog w = .ok (.bool (!a.isNone)) w :=
  fun w a n c n' c' => run_neq_slice_nil_any w _ _ a n c n' c' Uagg.underlying22

theorem kinds_zero (a a' : Option Addr) (c c' : Nat) (w : World) :
    Calls Uagg.prog 22 #[.slice a 0 c, .slice a' 0 c'] w fun e w' => ∃ g, e = .returned (.tuple #[.slice (some ⟨g, 0, none⟩) 0 0, .bool true]) ∧ Below w.heap.size w w' := by
  obtain ⟨i0, hi, hz0, hz1, hz2⟩ := info_parts info20
  go_enter Uagg.func22, Uagg.ntmps22
  go_wp2_with (at_make; refine wpList_make_full _ rfl (.tmp 9) (.tmp 9) 46 rfl w.heap.size 20 i0 .nilIface 1 Uagg.underlying46 hi hz0 hz1 .i64 .i64 _ _ 0 rfl rfl rfl rfl (by rw [hz2]; omega) (by unfold maxLen; omega) (Nat.le_refl _) ?_; intro w1 hown hgrow)
  have hrd : Hid (Rd w1 w.heap.size (ifl [])) := by
    have := made_fill (ys := ifl []) rfl rfl hown
    rw [fill_all (ifl []) _ 0 (Nat.le_refl _)] at this
    exact Rd.of_own this
  have hbl : Below w.heap.size w w1 := (Below.refl _ _).grown hgrow (Nat.le_refl _) (by simp)
  clear hown hgrow
  refine wp_loop_rounds 1 ?_; rw [rounds_succ]
  go_wp2_with (go_at_call 28; refine (toNum_all _ 0 0 [] _ (by omega) rfl hrd.out).mono ?_; rintro e w' ⟨rfl, hr, hb⟩)
  go_ret2
  exact ⟨_, rfl, hbl.trans (hb.mono hbl.size)⟩

/-- The early ways out: they look at the two lengths alone. -/
theorem early9 (a a' : Option Addr) (l l' c c' : Nat) (w : World) (hm : l ≤ maxLen) (hm' : l' ≤ maxLen) (h : 131072 < l ∨ 1048576 < l' ∨ 1048576 < l * 8 + l' ∨ l ≠ l') :
    Calls Uagg.prog 9 #[.slice a l c, .slice a' l' c'] w fun e w' => e = .returned (.bool true) ∧ w' = w := by
  unfold maxLen at hm hm'
  by_cases h1 : 1048576 < l
  · go_enter Uagg.func9, Uagg.ntmps9
    go_wp2
    go_ret
    exact ⟨rfl, rfl⟩
  by_cases h2 : 1048576 < l'
  · go_enter Uagg.func9, Uagg.ntmps9
    go_wp2
    go_ret
    exact ⟨rfl, rfl⟩
  by_cases h3 : 1048576 < l + l'
  · go_enter Uagg.func9, Uagg.ntmps9
    go_wp2
    go_ret
    exact ⟨rfl, rfl⟩
  by_cases h4 : 131072 < l
  · go_enter Uagg.func9, Uagg.ntmps9
    go_wp2
    go_ret
    exact ⟨rfl, rfl⟩
  by_cases h5 : 1048576 < l * 8 + l'
  · go_enter Uagg.func9, Uagg.ntmps9
    go_wp2
    go_ret
    exact ⟨rfl, rfl⟩
  · have h6 : ((l : Int) != (l' : Int)) = true := by
      have : l ≠ l' := by omega
      simp; omega
    go_enter Uagg.func9, Uagg.ntmps9
    go_wp2
    go_ret
    exact ⟨rfl, rfl⟩

theorem bytes20 (a a' : Option Addr) (l l' c c' : Nat) (w : World) (h : l + l' ≤ 1048576) :
    Calls Uagg.prog 20 #[.slice a l c, .slice a' l' c'] w fun e w' => e = .returned (.bool true) ∧ w = w' := by
  go_enter Uagg.func20, Uagg.ntmps20
  go_wp2
  go_ret
  exact ⟨rfl, rfl⟩
end Go.Proofs.Youagw.Rd
