/-
  THE WALK of FnToArrayNumRefusesNonInterfaceSlices.
-/
import Derived.Test.YouagwClone
import Derived.Test.YouagwAsserts
namespace Go.Proofs.Youagw.Clone
open Go.RowKit
open Go.Proofs.Youagw.Lists Go.Proofs.Youagw.Asserts
attribute [local go_sem] as22_46 as29_46 asNil_46

/-- toArrayNum of whatever is no []interface{}: nil and false. -/
theorem not22 (v : Value) (w : World) : Calls Uagg.prog 28 #[.iface 22 v] w fun e w' => e = .returned (.tuple #[.slice none 0 0, .bool false]) ∧ w' = w := by
  go_enter Uagg.func28, Uagg.ntmps28
  go_wp2
  go_ret2
  exact ⟨rfl, rfl⟩
theorem not29 (v : Value) (w : World) : Calls Uagg.prog 28 #[.iface 29 v] w fun e w' => e = .returned (.tuple #[.slice none 0 0, .bool false]) ∧ w' = w := by
  go_enter Uagg.func28, Uagg.ntmps28
  go_wp2
  go_ret2
  exact ⟨rfl, rfl⟩
theorem notNil (w : World) : Calls Uagg.prog 28 #[.nilIface] w fun e w' => e = .returned (.tuple #[.slice none 0 0, .bool false]) ∧ w' = w := by
  go_enter Uagg.func28, Uagg.ntmps28
  go_wp2
  go_ret2
  exact ⟨rfl, rfl⟩
theorem typed_any (a : Option Addr) (n c : Nat) (w : World) : Calls Uagg.prog 24 #[.slice a n c] w fun e w' => e = .returned (.tuple #[.slice none 0 0, .bool false]) ∧ w' = w := by
  go_enter Uagg.func24, Uagg.ntmps24
  go_wp2_with (go_at_call 28; refine (not22 _ _).mono ?_; rintro e w' ⟨rfl, rfl⟩)
  go_ret2
  exact ⟨rfl, rfl⟩
theorem scalar_any (f : Nat) (w : World) : Calls Uagg.prog 25 #[.float .f64 f] w fun e w' => e = .returned (.tuple #[.slice none 0 0, .bool false]) ∧ w' = w := by
  go_enter Uagg.func25, Uagg.ntmps25
  go_wp2_with (go_at_call 28; refine (not29 _ _).mono ?_; rintro e w' ⟨rfl, rfl⟩)
  go_ret2
  exact ⟨rfl, rfl⟩
theorem nil_any (w : World) : Calls Uagg.prog 26 #[] w fun e w' => e = .returned (.tuple #[.slice none 0 0, .bool false]) ∧ w' = w := by
  go_enter Uagg.func26, Uagg.ntmps26
  go_wp2_with (go_at_call 28; refine (notNil _).mono ?_; rintro e w' ⟨rfl, rfl⟩)
  go_ret2
  exact ⟨rfl, rfl⟩

set_option maxHeartbeats 800000 in
theorem walk10_some (x : Addr) (len cap : Nat) (xs : List Nat) (f : Nat) (w : World) (hm : len ≤ maxLen) (h : InF w x len xs) :
    Calls Uagg.prog 10 #[.slice (some x) len cap, .float .f64 f] w fun e w' => e = .returned (.bool true) ∧ Below w.heap.size w w' := by
  unfold maxLen at hm
  have q22 := eql22
  by_cases h1 : len ≤ 131072
  · go_enter Uagg.func10, Uagg.ntmps10
    go_wp2_with (first | (go_at_call 12; refine (clone_full x len cap xs _ h1 h).mono ?_; rintro e w' ⟨rfl, hown, hb⟩) | (go_at_call 24; refine (typed_any _ _ _ _).mono ?_; rintro e w' ⟨rfl, rfl⟩) | (go_at_call 25; refine (scalar_any _ _).mono ?_; rintro e w' ⟨rfl, rfl⟩) | (go_at_call 26; refine (nil_any _).mono ?_; rintro e w' ⟨rfl, rfl⟩) | go_in)
    go_ret
    exact ⟨rfl, by assumption⟩
  · by_cases h2 : len ≤ 1048576
    · go_enter Uagg.func10, Uagg.ntmps10
      go_wp2
      go_ret
      exact ⟨rfl, Below.refl _ _⟩
    · go_enter Uagg.func10, Uagg.ntmps10
      go_wp2
      go_ret
      exact ⟨rfl, Below.refl _ _⟩

set_option maxHeartbeats 800000 in
theorem walk10_nil (f : Nat) (w : World) :
    Calls Uagg.prog 10 #[.slice none 0 0, .float .f64 f] w fun e w' => e = .returned (.bool true) ∧ Below w.heap.size w w' := by
  have q22 := eql22
  go_enter Uagg.func10, Uagg.ntmps10
  go_wp2_with (first | (go_at_call 12; refine (clone_nil _).mono ?_; rintro e w' ⟨rfl, rfl⟩) | (go_at_call 24; refine (typed_any _ _ _ _).mono ?_; rintro e w' ⟨rfl, rfl⟩) | (go_at_call 25; refine (scalar_any _ _).mono ?_; rintro e w' ⟨rfl, rfl⟩) | (go_at_call 26; refine (nil_any _).mono ?_; rintro e w' ⟨rfl, rfl⟩) | go_in)
  go_ret
  exact ⟨rfl, Below.refl _ _⟩
end Go.Proofs.Youagw.Clone
