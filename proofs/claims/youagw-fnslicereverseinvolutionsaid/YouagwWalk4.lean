/-
  THE WALK of FnSliceReverseInvolution.
-/
import Derived.Test.YouagwUni
namespace Go.Proofs.Youagw.Rd
open Go.RowKit
open Go.Proofs.Youagw.Plain Go.Proofs.Youagw.Params Go.Proofs.Youagw.Seq
open Go.Proofs.Youagw.Lists Go.Proofs.Youagw.Clone Go.Proofs.Youagw.Asserts

theorem early4 (a : Option Addr) (l c : Nat) (w : World) (hm : l ≤ maxLen) (h : 131072 < l) :
    Calls Uagg.prog 4 #[.slice a l c] w fun e w' => e = .returned (.bool true) ∧ w' = w := by
  unfold maxLen at hm
  by_cases h1 : 1048576 < l
  · go_enter Uagg.func4, Uagg.ntmps4
    go_wp2
    go_ret
    exact ⟨rfl, rfl⟩
  · go_enter Uagg.func4, Uagg.ntmps4
    go_wp2
    go_ret
    exact ⟨rfl, rfl⟩

theorem bytes16 (a : Option Addr) (l c : Nat) (w : World) (h : l ≤ 131072) :
    Calls Uagg.prog 16 #[.slice a l c] w fun e w' => e = .returned (.bool true) ∧ w = w' := by
  go_enter Uagg.func16, Uagg.ntmps16
  go_wp2
  go_ret
  exact ⟨rfl, rfl⟩

theorem wrap_in (x : Int) (h : -9223372036854775808 ≤ x) (h' : x ≤ 9223372036854775807) : IntKind.i64.wrap x = x := by rw [IntKind.wrap_i64]; omega

theorem rev_get (xs : List Nat) (n k : Nat) (hx : xs.length = n) (hk : k < n) : xs.reverse.getD k 0 = xs.getD (n - 1 - k) 0 := by
  rw [getD_get _ _ (by simp; omega), getD_get _ _ (by omega), List.getElem_reverse]
  congr 1
  omega

set_option maxHeartbeats 1600000 in
theorem walk4_main (a : Option Addr) (n c : Nat) (xs : List Nat) (w : World) (hn : n ≤ 131072) (h : Came w a n c xs) :
    Calls Uagg.prog 4 #[.slice a n c] w fun e w' => e = .returned (.bool true) ∧ Below w.heap.size w w' := by
  have H : Hid (Came w a n c xs) := h
  have HX : Hid (xs.length = n) := h.length
  have HRX : Hid (xs.reverse.length = n) := by show _ = _; rw [List.length_reverse]; exact HX.out
  have e0 : ((n : Int) != (n : Int)) = false := by simp
  clear h
  go_enter Uagg.func4, Uagg.ntmps4
  go_wp2_with (go_at_call 16; refine (bytes16 _ _ _ _ hn).mono ?_; rintro e w' ⟨rfl, rfl⟩)
  refine (cloneU a n c xs _ hn H.out).mono ?_
  rintro e w1 ⟨a1, rfl, s1, hb1⟩
  have S1 : Hid (Sl w1 a1 n xs) := s1
  clear s1 H
  go_wp2_with fail
  refine (rev_any a1 n n xs _ hn HX.out S1.out).mono ?_
  rintro e w2 ⟨g2, rfl, r2, hb2⟩
  have R2 : Hid (Rd w2 g2 (fl xs.reverse)) := r2
  have S2 : Hid (Sl w2 a1 n xs) := S1.out.below hb2
  have B2 : Hid (Below w.heap.size w w2) := hb1.trans (hb2.mono hb1.size)
  clear r2 hb1 hb2 S1
  go_wp2
  go_loopw [6] (fun i wr => ∃ k : Nat, k ≤ n ∧ i = .int .i64 k ∧ Hid (∃ m, wr = w2.drewN m)) (fun i _ => n - (intOf i).toNat)
  case atStart => exact ⟨0, Nat.zero_le _, rfl, ⟨0, rfl⟩⟩
  case round =>
    obtain ⟨k, hk, rfl, hm⟩ := hrel
    by_cases hlt : k < n
    · obtain ⟨g, rfl, hr⟩ := S2.out (by omega)
      have c1 : wr.cell? ⟨g2, k, none⟩ = some (.float .f64 (xs.getD (n - 1 - k) 0)) := by
        obtain ⟨m, rfl⟩ := hm.out
        rw [← rev_get xs n k HX.out hlt]
        exact R2.out.fl k (by rw [HRX.out]; exact hlt)
      have c2 : wr.cell? ⟨g, n - 1 - k, none⟩ = some (.float .f64 (xs.getD (n - 1 - k) 0)) := by
        obtain ⟨m, rfl⟩ := hm.out
        exact hr.fl (n - 1 - k) (by rw [HX.out]; omega)
      have hlt' : (k : Int) < (n : Int) := by omega
      have v1 := wrap_in ((n : Int) - 1) (by omega) (by omega)
      have v2 : IntKind.i64.wrap ((n : Int) - 1 - (k : Int)) = ((n - 1 - k : Nat) : Int) := by rw [wrap_in _ (by omega) (by omega)]; omega
      have hq : n - 1 - k < n := by omega
      generalize xs.getD (n - 1 - k) 0 = u at c1 c2
      generalize n - 1 - k = q at c2 v2 hq
      have hq' : (q : Int) < (n : Int) := by omega
      clear hr
      go_wp2
      go_quiet ((go_at_call 15; exact Calls.quiet_of_same (same_refl _ _)))
      go_wp2
      go_roundw
      case rel => exact ⟨k + 1, by omega, by go_num, by obtain ⟨m, rfl⟩ := hm.out; exact ⟨_, World.drewN_drewN _ _ _⟩⟩
      case measure => simp [intOf]; omega
    · have hkn : k = n := by omega
      subst hkn
      have hb : Below w2.heap.size w2 wr := by obtain ⟨m, rfl⟩ := hm.out; exact bel_drewN (Below.refl _ _) _
      have B3 : Hid (Below w.heap.size w wr) := B2.out.trans (hb.mono B2.out.size)
      have S3 : Hid (Sl wr a1 k xs) := S2.out.below hb
      have T3 : Hid (Sl wr (some ⟨g2, 0, none⟩) k xs.reverse) := Sl.of (R2.out.belowAll hb)
      clear hb B2 S2 R2 hm
      go_wp2_with fail
      refine (rev_any (some ⟨g2, 0, none⟩) k k xs.reverse _ hn HRX.out T3.out).mono ?_
      rintro e w4 ⟨g4, rfl, r4, hb4⟩
      rw [List.reverse_reverse] at r4
      have B4 : Hid (Below w.heap.size w w4) := B3.out.trans (hb4.mono B3.out.size)
      have S4 : Hid (Sl w4 a1 k xs) := S3.out.below hb4
      have T4 : Hid (Sl w4 (some ⟨g4, 0, none⟩) k xs) := Sl.of r4
      clear r4 hb4 B3 S3 T3
      go_wp2_with fail
      refine (eqU (some ⟨g4, 0, none⟩) a1 k _ _ xs _ (by omega) HX.out T4.out S4.out).mono ?_
      rintro e w5 ⟨rfl, hb5⟩
      have B5 : Hid (Below w.heap.size w w5) := B4.out.trans (hb5.mono B4.out.size)
      have S5 : Hid (Sl w5 a1 k xs) := S4.out.below hb5
      clear hb5 B4 S4 T4
      go_wp2_with fail
      refine (id_any a1 k k xs _ hn HX.out S5.out).mono ?_
      rintro e w6 ⟨g6, rfl, r6, hb6⟩
      have B6 : Hid (Below w.heap.size w w6) := B5.out.trans (hb6.mono B5.out.size)
      have S6 : Hid (Sl w6 a1 k xs) := S5.out.below hb6
      have T6 : Hid (Sl w6 (some ⟨g6, 0, none⟩) k xs) := Sl.of r6
      clear r6 hb6 B5 S5
      go_wp2_with fail
      refine (eqU (some ⟨g6, 0, none⟩) a1 k _ _ xs _ (by omega) HX.out T6.out S6.out).mono ?_
      rintro e w7 ⟨rfl, hb7⟩
      have B7 : Hid (Below w.heap.size w w7) := B6.out.trans (hb7.mono B6.out.size)
      clear hb7 B6 S6 T6
      go_wp2
      go_ret
      exact ⟨rfl, B7.out⟩
end Go.Proofs.Youagw.Rd
