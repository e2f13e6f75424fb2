/-
  THE WALK of FnSliceIsPythonSlice: no step is given (it is 1).
-/
import Derived.Test.YouagwWalk3u
namespace Go.Proofs.Youagw.Rd
open Go.RowKit
open Go.Proofs.Youagw.Plain Go.Proofs.Youagw.Params Go.Proofs.Youagw.Seq Go.Proofs.Youagw.Ints
open Go.Proofs.Youagw.Lists Go.Proofs.Youagw.Clone Go.Proofs.Youagw.Asserts

set_option maxRecDepth 100000 in
set_option maxHeartbeats 1600000 in
theorem walk3_one (a : Option Addr) (n c : Nat) (xs : List Nat) (start stop step : Int) (hs he : Bool) (w : World) (hn : n ≤ 131072) (h : Came w a n c xs)
    (ha : -9223372036854775808 ≤ start) (ha2 : start ≤ 9223372036854775807) (hb : -9223372036854775808 ≤ stop) (hb2 : stop ≤ 9223372036854775807) :
    Calls Uagg.prog 3 #[.slice a n c, .int .i64 start, .int .i64 stop, .int .i64 step, .bool hs, .bool he, .bool false] w fun e w' => e = .returned (.bool true) ∧ Below w.heap.size w w' := by
  have q22 := eql22
  have H : Hid (Came w a n c xs) := h
  have HX : Hid (xs.length = n) := h.length
  have hpos : (0 : Int) < 1 := by omega
  have dn0 : decide ((1 : Int) < 0) = false := rfl
  obtain ⟨r1, r2⟩ := (endI_range n start 1 hs true (by omega)).2 (by omega)
  obtain ⟨r3, r4⟩ := (endI_range n stop 1 he false (by omega)).2 (by omega)
  clear h
  go_enter Uagg.func3, Uagg.ntmps3
  go_wp2_with (go_at_call 11; refine (bytes11 _ _ _ _ _ _ _ _ _ _ hn).mono ?_; rintro e w' ⟨rfl, rfl⟩)
  refine (cloneU a n c xs _ hn H.out).mono ?_
  rintro e w1 ⟨a1, rfl, s1, hb1⟩
  have S1 : Hid (Sl w1 a1 n xs) := s1
  clear s1 H
  go_wp2_with fail
  refine (floats_any a1 n n xs start stop step 1 hs he false _ hn HX.out S1.out ha ha2 hb hb2 (.inl ⟨rfl, rfl⟩) (by omega) (by omega) (by omega)).mono ?_
  rintro e w2 ⟨cnt, g2, rfl, r5, hb2', hcn, hstops⟩
  have B2 : Hid (Below w.heap.size w w2) := hb1.trans (hb2'.mono hb1.size)
  have S2 : Hid (Sl w2 a1 n xs) := S1.out.below hb2'
  have R2 : Hid (Rd w2 g2 (fl (picked xs (endI n start 1 hs true) 1 cnt))) := r5
  have HS : Hid ((∀ t, t < cnt → trm (endI n start 1 hs true) 1 t < endI n stop 1 he false) ∧ endI n stop 1 he false ≤ trm (endI n start 1 hs true) 1 cnt) := hstops.1 hpos
  clear hb1 hb2' S1 r5 hstops
  go_wp2_with (go_at_call 14; refine (py_end _ _ 1 _ _ _ _ (by omega) (by omega) (by omega) (by omega) dn0).mono ?_; rintro e w' ⟨rfl, rfl⟩)
  generalize endI (↑n) start 1 hs true = S at r1 r2 R2 HS ⊢
  generalize endI (↑n) stop 1 he false = E at r3 r4 HS ⊢
  go_loopw [22, 23] (fun kk i wr => ∃ k q : Nat, q ≤ n ∧ i = .int .i64 q ∧ kk = .int .i64 k ∧ k ≤ cnt ∧ Hid (UpInv S 1 cnt q k) ∧ Hid (∃ m, wr = w2.drewN m)) (fun _ i _ => n - (intOf i).toNat)
  case atStart => exact ⟨0, 0, Nat.zero_le _, rfl, rfl, Nat.zero_le _, up_start S 1 cnt r1, ⟨0, rfl⟩⟩
  case round =>
    obtain ⟨k, q, hqn, rfl, rfl, hkc, hinv, hm⟩ := hrel
    by_cases hlt : q < n
    · have hlt' : (q : Int) < (n : Int) := by omega
      by_cases m1 : S ≤ (q : Int)
      · by_cases m2 : (q : Int) < E
        · have nn : 0 ≤ (q : Int) - S := by omega
          have m3 : ((q : Int) - S) % 1 = 0 := Int.emod_one _
          obtain ⟨t1, t2, t3⟩ := up_member hpos HS.out.2 hinv.out m1 m2 m3
          have T3 : Hid (UpInv S 1 cnt ((q : Int) + 1) (k + 1)) := t3
          obtain ⟨g, rfl, hr⟩ := S2.out (by omega)
          have c1 : wr.cell? ⟨g2, k, none⟩ = some (.float .f64 (xs.getD q 0)) := by obtain ⟨m, rfl⟩ := hm.out; exact picked_at R2.out t1 t2
          have c2 : wr.cell? ⟨g, q, none⟩ = some (.float .f64 (xs.getD q 0)) := by obtain ⟨m, rfl⟩ := hm.out; exact hr.fl q (by rw [HX.out]; exact hlt)
          generalize xs.getD q 0 = u at c1 c2
          have hd : decide ((cnt : Int) ≤ (k : Int)) = false := decide_eq_false (by omega)
          have t1' : (k : Int) < (cnt : Int) := by omega
          clear t2 t3 hr m3
          go_wp2
          go_quiet ((go_at_call 15; exact Calls.quiet_of_same (same_refl _ _)))
          go_wp2
          go_roundw
          case rel => exact ⟨k + 1, q + 1, by omega, by go_num, by go_num, by omega, T3, by obtain ⟨m, rfl⟩ := hm.out; exact ⟨_, World.drewN_drewN _ _ _⟩⟩
          case measure => simp [intOf]; omega
        · have I : Hid (UpInv S 1 cnt ((q : Int) + 1) k) := up_other hpos HS.out.1 hinv.out (fun h => m2 h.2.1)
          go_wp2
          go_roundw
          case rel => exact ⟨k, q + 1, by omega, by go_num, rfl, hkc, I, hm⟩
          case measure => simp [intOf]; omega
      · have I : Hid (UpInv S 1 cnt ((q : Int) + 1) k) := up_other hpos HS.out.1 hinv.out (fun h => m1 h.1)
        go_wp2
        go_roundw
        case rel => exact ⟨k, q + 1, by omega, by go_num, rfl, hkc, I, hm⟩
        case measure => simp [intOf]; omega
    · have hqe : q = n := by omega
      subst hqe
      obtain rfl := up_end HS.out.1 r4 hinv.out
      have hb : Below w2.heap.size w2 wr := by obtain ⟨m, rfl⟩ := hm.out; exact bel_drewN (Below.refl _ _) _
      have B3 : Hid (Below w.heap.size w wr) := B2.out.trans (hb.mono B2.out.size)
      have e0 : ((k : Int) == (k : Int)) = true := by simp
      clear hb
      go_wp2
      go_ret
      exact ⟨rfl, B3.out⟩
end Go.Proofs.Youagw.Rd
