/-
  THE WALK of FnSliceIsPythonSlice: the early ways out, the step 0, and the contracts that the main ways use.
-/
import Derived.Test.YouagwUni
import Derived.Test.YouagwMember
namespace Go.Proofs.Youagw.Rd
open Go.RowKit
open Go.Proofs.Youagw.Plain Go.Proofs.Youagw.Params Go.Proofs.Youagw.Seq Go.Proofs.Youagw.Ints
open Go.Proofs.Youagw.Lists Go.Proofs.Youagw.Clone Go.Proofs.Youagw.Asserts
attribute [local go_sem] run_store_float run_store_iface run_store_nilIface

set_option maxRecDepth 100000 in
theorem early3_len (a : Option Addr) (l c : Nat) (start stop step : Int) (hs he hp : Bool) (w : World) (hm : l ≤ maxLen) (h : 131072 < l) :
    Calls Uagg.prog 3 #[.slice a l c, .int .i64 start, .int .i64 stop, .int .i64 step, .bool hs, .bool he, .bool hp] w fun e w' => e = .returned (.bool true) ∧ w' = w := by
  unfold maxLen at hm
  by_cases h1 : 1048576 < l
  · go_enter Uagg.func3, Uagg.ntmps3
    go_wp2
    go_ret
    exact ⟨rfl, rfl⟩
  · go_enter Uagg.func3, Uagg.ntmps3
    go_wp2
    go_ret
    exact ⟨rfl, rfl⟩

set_option maxRecDepth 100000 in
theorem early3_step (a : Option Addr) (l c : Nat) (start stop step : Int) (hs he : Bool) (w : World) (h : l ≤ 131072) (hst : 9223372036854513663 < step) :
    Calls Uagg.prog 3 #[.slice a l c, .int .i64 start, .int .i64 stop, .int .i64 step, .bool hs, .bool he, .bool true] w fun e w' => e = .returned (.bool true) ∧ w' = w := by
  go_enter Uagg.func3, Uagg.ntmps3
  go_wp2
  go_ret
  exact ⟨rfl, rfl⟩

theorem bytes11 (a : Option Addr) (l c : Nat) (start stop step : Int) (hs he hp : Bool) (w : World) (h : l ≤ 131072) :
    Calls Uagg.prog 11 #[.slice a l c, .int .i64 start, .int .i64 stop, .int .i64 step, .bool hs, .bool he, .bool hp] w fun e w' => e = .returned (.bool true) ∧ w = w' := by
  go_enter Uagg.func11, Uagg.ntmps11
  go_wp2
  go_ret
  exact ⟨rfl, rfl⟩

theorem py_end (n v st : Int) (has neg b : Bool) (w : World) (hn : 0 ≤ n) (hn2 : n ≤ 9223372036854775807) (ha : -9223372036854775808 ≤ v) (ha2 : v ≤ 9223372036854775807) (hd : decide (st < 0) = neg) :
    Calls Uagg.prog 14 #[.int .i64 n, .int .i64 v, .bool has, .bool neg, .bool b] w fun e w' => e = .returned (.int .i64 (endI n v st has b)) ∧ w = w' := by
  subst hd
  rw [endI_py n v st hn has b]
  exact (py_any n v has _ b w hn hn2 ha ha2).mono fun e w' ⟨h1, h2⟩ => ⟨h1, h2.symm⟩

set_option maxHeartbeats 1600000 in
theorem floats_zero (a : Option Addr) (n c : Nat) (xs : List Nat) (start stop : Int) (hs he : Bool) (w : World) (hn : n ≤ 131072) (hx : xs.length = n) (h : Sl w a n xs) :
    Calls Uagg.prog 13 #[.slice a n c, .int .i64 start, .int .i64 stop, .int .i64 0, .bool hs, .bool he, .bool true] w fun e w' => e = .returned (.tuple #[.slice none 0 0, .bool true]) ∧ Below w.heap.size w w' := by
  obtain ⟨i0, hi, hz0, hz1, hz2⟩ := info_parts info20
  have HX : Hid (xs.length = n) := hx
  have HF : Hid ((ifl xs).length = n) := by show _ = _; rw [ifl_length, hx]
  have HR : Hid (Sl w a n xs) := h
  clear hx h
  go_enter Uagg.func13, Uagg.ntmps13
  go_wp2_with (at_make; refine wpList_make_full _ rfl (.tmp 24) (.tmp 24) 46 rfl w.heap.size 20 i0 .nilIface 1 Uagg.underlying46 hi hz0 hz1 .i64 .i64 _ _ n rfl rfl rfl rfl (by rw [hz2]; omega) (by unfold maxLen; omega) (Nat.le_refl _) ?_; intro w1 hown hgrow)
  have hof := made_fill HF.out rfl hown
  have hbl : Below w.heap.size w w1 := (Below.refl _ _).grown hgrow (Nat.le_refl _) (by simp)
  clear hown hgrow
  go_loopw [17] (fun i wr => ∃ k : Nat, k ≤ n ∧ i = .int .i64 k ∧ wr.ownsRow w.heap.size 20 1 (.slice (some ⟨w.heap.size, 0, none⟩) n n) n (fill (ifl xs) .nilIface k) ∧ Below w.heap.size w wr)
    (fun i _ => n - (intOf i).toNat)
  case atStart => exact ⟨0, Nat.zero_le _, rfl, hof, hbl⟩
  case round =>
    clear hof hbl
    obtain ⟨k, hk, rfl, hown, hnx⟩ := hrel
    by_cases hlt : k < n
    · obtain ⟨g, rfl, hr⟩ := HR.out (by omega)
      have hcx : wr.cell? ⟨g, k, none⟩ = some (.float .f64 (xs.getD k 0)) := (hr.belowAll hnx).fl k (by rw [HX.out]; exact hlt)
      obtain ⟨f1, f2, f3, f4⟩ := fill_round HF.out (Nat.le_refl _) hnx hown (ifl_get xs k (by rw [HX.out]; exact hlt))
      have R : Hid (_ ∧ _) := ⟨f3, f4⟩
      clear f3 f4 hown hnx hr
      go_wp2
      go_roundw
      case rel => exact ⟨k + 1, by omega, by go_num, R.out.1, R.out.2⟩
      case measure => simp [intOf]; omega
    · clear hown HR
      go_wp2_with fail
      refine (slice_zero w.heap.size n n wr.heap.size _ (by simp) (by simp)).mono ?_
      rintro e w2 ⟨t, x, rfl, hb2⟩
      have HB2 : Hid (Below w.heap.size w w2) := ((hnx.alloc hnx.size _).trans (hb2.mono (by simp; have := hnx.size; omega)))
      clear hb2 hnx
      go_wp2
      go_ret2
      exact ⟨rfl, HB2.out⟩

set_option maxRecDepth 100000 in
set_option maxHeartbeats 800000 in
theorem walk3_zero (a : Option Addr) (n c : Nat) (xs : List Nat) (start stop : Int) (hs he : Bool) (w : World) (hn : n ≤ 131072) (h : Came w a n c xs) :
    Calls Uagg.prog 3 #[.slice a n c, .int .i64 start, .int .i64 stop, .int .i64 0, .bool hs, .bool he, .bool true] w fun e w' => e = .returned (.bool true) ∧ Below w.heap.size w w' := by
  have q22 := eql22
  have H : Hid (Came w a n c xs) := h
  have HX : Hid (xs.length = n) := h.length
  clear h
  go_enter Uagg.func3, Uagg.ntmps3
  go_wp2_with (go_at_call 11; refine (bytes11 _ _ _ _ _ _ _ _ _ _ hn).mono ?_; rintro e w' ⟨rfl, rfl⟩)
  refine (cloneU a n c xs _ hn H.out).mono ?_
  rintro e w1 ⟨a1, rfl, s1, hb1⟩
  have S1 : Hid (Sl w1 a1 n xs) := s1
  clear s1 H
  go_wp2_with fail
  refine (floats_zero a1 n n xs start stop hs he _ hn HX.out S1.out).mono ?_
  rintro e w2 ⟨rfl, hb2⟩
  have B2 : Hid (Below w.heap.size w w2) := hb1.trans (hb2.mono hb1.size)
  clear hb1 hb2 S1
  go_wp2
  go_ret
  exact ⟨rfl, B2.out⟩
end Go.Proofs.Youagw.Rd
