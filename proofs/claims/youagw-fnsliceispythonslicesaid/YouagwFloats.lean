/-
  CONTRACT: ZZsliceFloats.
-/
import Derived.Test.YouagwSliceD
namespace Go.Proofs.Youagw.Rd
open Go.RowKit
open Go.Proofs.Youagw.Plain Go.Proofs.Youagw.Params Go.Proofs.Youagw.Seq
open Go.Proofs.Youagw.Lists Go.Proofs.Youagw.Clone Go.Proofs.Youagw.Asserts
attribute [local go_sem] run_store_float run_store_iface run_store_nilIface

/-- The progression from S has just cnt terms on this side of E. -/
def Stops (S E st : Int) (cnt : Nat) : Prop :=
  (0 < st → (∀ t, t < cnt → trm S st t < E) ∧ E ≤ trm S st cnt) ∧ (st < 0 → (∀ t, t < cnt → E < trm S st t) ∧ trm S st cnt ≤ E)

theorem slice_any (g n c p : Nat) (xs : List Nat) (start stop step st : Int) (hs he hp : Bool) (w : World) (hn : n ≤ 131072) (hx : xs.length = n) (h : Rd w g (ifl xs)) (h6 : Six w p start stop step hs he hp)
    (ha : -9223372036854775808 ≤ start) (ha2 : start ≤ 9223372036854775807) (hb : -9223372036854775808 ≤ stop) (hb2 : stop ≤ 9223372036854775807)
    (hst : (hp = false ∧ st = 1) ∨ (hp = true ∧ st = step ∧ (step == 0) = false)) (h0 : st ≠ 0) (hmax : st ≤ 9223372036854513663) (hmin : -9223372036854775808 ≤ st) :
    Calls Uagg.prog 27 #[.slice (some ⟨g, 0, none⟩) n c, .slice (some ⟨p, 0, none⟩) 3 3] w fun e w' => ∃ cnt g' c', e = .returned (.tuple #[.slice (some ⟨g', 0, none⟩) cnt c', .nilIface]) ∧
      Rd w' g' (ifl (picked xs (endI n start st hs true) st cnt)) ∧ Below w.heap.size w w' ∧ cnt ≤ n ∧ Stops (endI n start st hs true) (endI n stop st he false) st cnt := by
  by_cases hpos : 0 < st
  · obtain ⟨r1, r2⟩ := (endI_range n start st hs true (by omega)).2 (by omega)
    obtain ⟨r3, r4⟩ := (endI_range n stop st he false (by omega)).2 (by omega)
    refine (slice_up g n c p xs start stop step st hs he hp w hn hx h h6 ha ha2 hb hb2 hst hpos hmax).mono fun e w' ⟨cnt, g', c', h1, h2, h3, h4, h5⟩ => ⟨cnt, g', c', h1, h2, h3, ?_, fun _ => ⟨h4, h5⟩, fun hn => by omega⟩
    by_cases hc : cnt = 0
    · omega
    · have e1 := h4 (cnt - 1) (by omega)
      have e2 := up_le (endI n start st hs true) st hpos (cnt - 1)
      omega
  · have hneg : st < 0 := by omega
    obtain ⟨r1, r2⟩ := (endI_range n start st hs true (by omega)).1 (by omega)
    obtain ⟨r3, r4⟩ := (endI_range n stop st he false (by omega)).1 (by omega)
    refine (slice_dn g n c p xs start stop step st hs he hp w hn hx h h6 ha ha2 hb hb2 hst hneg hmin).mono fun e w' ⟨cnt, g', c', h1, h2, h3, h4, h5⟩ => ⟨cnt, g', c', h1, h2, h3, ?_, fun hn => by omega, fun _ => ⟨h4, h5⟩⟩
    by_cases hc : cnt = 0
    · omega
    · have e1 := h4 (cnt - 1) (by omega)
      have e2 := dn_le (endI n start st hs true) st hneg (cnt - 1)
      omega

set_option maxHeartbeats 1600000 in
theorem floats_any (a : Option Addr) (n c : Nat) (xs : List Nat) (start stop step st : Int) (hs he hp : Bool) (w : World) (hn : n ≤ 131072) (hx : xs.length = n)
    (h : 0 < n → ∃ g, a = some ⟨g, 0, none⟩ ∧ Rd w g (fl xs))
    (ha : -9223372036854775808 ≤ start) (ha2 : start ≤ 9223372036854775807) (hb : -9223372036854775808 ≤ stop) (hb2 : stop ≤ 9223372036854775807)
    (hst : (hp = false ∧ st = 1) ∨ (hp = true ∧ st = step ∧ (step == 0) = false)) (h0 : st ≠ 0) (hmax : st ≤ 9223372036854513663) (hmin : -9223372036854775808 ≤ st) :
    Calls Uagg.prog 13 #[.slice a n c, .int .i64 start, .int .i64 stop, .int .i64 step, .bool hs, .bool he, .bool hp] w fun e w' => ∃ cnt g', e = .returned (.tuple #[.slice (some ⟨g', 0, none⟩) cnt cnt, .bool false]) ∧
      Rd w' g' (fl (picked xs (endI n start st hs true) st cnt)) ∧ Below w.heap.size w w' ∧ cnt ≤ n ∧ Stops (endI n start st hs true) (endI n stop st he false) st cnt := by
  obtain ⟨i0, hi, hz0, hz1, hz2⟩ := info_parts info20
  have HX : Hid (xs.length = n) := hx
  have HF : Hid ((ifl xs).length = n) := by show _ = _; rw [ifl_length, hx]
  have HR : Hid (0 < n → ∃ g, a = some ⟨g, 0, none⟩ ∧ Rd w g (fl xs)) := h
  have HST : Hid ((hp = false ∧ st = 1) ∨ (hp = true ∧ st = step ∧ (step == 0) = false)) := hst
  have H0 : Hid (st ≠ 0) := h0
  clear hx h hst h0
  go_enter Uagg.func13, Uagg.ntmps13
  go_wp2_with (at_make; refine wpList_make_full _ rfl (.tmp 24) (.tmp 24) 46 rfl w.heap.size 20 i0 .nilIface 1 Uagg.underlying46 hi hz0 hz1 .i64 .i64 _ _ n rfl rfl rfl rfl (by rw [hz2]; omega) (by unfold maxLen; omega) (Nat.le_refl _) ?_; intro w1 hown hgrow)
  have hof := made_fill HF.out rfl hown
  have hbl : Below w.heap.size w w1 := (Below.refl _ _).grown hgrow (Nat.le_refl _) (by simp)
  clear hown hgrow
  go_loopw [17] (fun i wr => ∃ k : Nat, k ≤ n ∧ i = .int .i64 k ∧ wr.ownsRow w.heap.size 20 1 (.slice (some ⟨w.heap.size, 0, none⟩) n n) n (fill (ifl xs) .nilIface k) ∧ Below w.heap.size w wr)
    (fun i _ => n - (intOf i).toNat)
  case atStart => exact ⟨0, Nat.zero_le _, rfl, hof, hbl⟩
  case round =>
    clear hof hbl
    obtain ⟨k, hk, rfl, hown, hnx⟩ := hrel
    by_cases hlt : k < n
    · obtain ⟨g, rfl, hr⟩ := HR.out (by omega)
      have hcx : wr.cell? ⟨g, k, none⟩ = some (.float .f64 (xs.getD k 0)) := (hr.belowAll hnx).fl k (by rw [HX.out]; exact hlt)
      obtain ⟨f1, f2, f3, f4⟩ := fill_round HF.out (Nat.le_refl _) hnx hown (ifl_get xs k (by rw [HX.out]; exact hlt))
      have R : Hid (_ ∧ _) := ⟨f3, f4⟩
      clear f3 f4 hown hnx hr
      go_wp2
      go_roundw
      case rel => exact ⟨k + 1, by omega, by go_num, R.out.1, R.out.2⟩
      case measure => simp [intOf]; omega
    · have hkn : k = n := by omega
      subst hkn
      rw [fill_all _ _ _ (by rw [HF.out]; exact Nat.le_refl _)] at hown
      have hrd : Hid (Rd wr w.heap.size (ifl xs)) := Rd.of_own hown
      clear hown HR
      go_wp2_with fail
      refine (slice_any w.heap.size k k wr.heap.size xs start stop step st hs he hp _ hn HX.out (hrd.out.belowAll ((Below.refl _ _).alloc (Nat.le_refl _) _)) ⟨by simp, by simp, by simp, by simp, by simp, by simp⟩ ha ha2 hb hb2 HST.out H0.out hmax hmin).mono ?_
      rintro e w2 ⟨cnt, g2, c2, rfl, r2, hb2', hcn, hstops⟩
      have R2 : Hid (Rd w2 g2 (ifl (picked xs (endI k start st hs true) st cnt))) := r2
      have HB2 : Hid (Below w.heap.size w w2) := ((hnx.alloc hnx.size _).trans (hb2'.mono (by simp; have := hnx.size; omega)))
      have HS : Hid (Stops (endI k start st hs true) (endI k stop st he false) st cnt) := hstops
      clear r2 hb2' hstops hnx
      go_wp2_with fail
      refine (toNum_all g2 cnt c2 (picked xs (endI k start st hs true) st cnt) _ (by omega) (picked_length _ _ _ _) R2.out).mono ?_
      rintro e w3 ⟨rfl, r3, hb3⟩
      have R3 : Hid (Rd w3 w2.heap.size (fl (picked xs (endI k start st hs true) st cnt))) := r3
      have HB3 : Hid (Below w.heap.size w w3) := HB2.out.trans (hb3.mono HB2.out.size)
      clear r3 hb3 HB2 R2
      go_wp2
      go_ret2
      exact ⟨cnt, w2.heap.size, rfl, R3.out, HB3.out, hcn, HS.out⟩
end Go.Proofs.Youagw.Rd
