/-
  CONTRACT: slice.
-/
import Derived.Test.YouagwParams
import Derived.Test.YouagwToNum
import Derived.Test.YouagwSeq
import Derived.Test.YouagwKinds
namespace Go.Proofs.Youagw.Rd
open Go.RowKit
open Go.Proofs.Youagw.Plain Go.Proofs.Youagw.Params Go.Proofs.Youagw.Seq
open Go.Proofs.Youagw.Lists Go.Proofs.Youagw.Clone Go.Proofs.Youagw.Asserts

/-- computeSliceParams, the two ways in which it does not refuse, in one: st is the step that is taken. -/
theorem csp_both (n start stop step st : Int) (hs he hp : Bool) (b : Nat) (w : World) (hn : 0 ≤ n) (hn2 : n ≤ 9223372036854775807)
    (ha : -9223372036854775808 ≤ start) (ha2 : start ≤ 9223372036854775807) (hb : -9223372036854775808 ≤ stop) (hb2 : stop ≤ 9223372036854775807)
    (hst : (hp = false ∧ st = 1) ∨ (hp = true ∧ st = step ∧ (step == 0) = false))
    (c0 : w.cell? ⟨b, 0, none⟩ = some (.int .i64 start)) (c1 : w.cell? ⟨b, 1, none⟩ = some (.bool hs)) (c2 : w.cell? ⟨b, 2, none⟩ = some (.int .i64 stop)) (c3 : w.cell? ⟨b, 3, none⟩ = some (.bool he))
    (c4 : w.cell? ⟨b, 4, none⟩ = some (.int .i64 step)) (c5 : w.cell? ⟨b, 5, none⟩ = some (.bool hp)) :
    Calls Uagg.prog 30 #[.int .i64 n, .slice (some ⟨b, 0, none⟩) 3 3] w fun e w' => e = .returned (.tuple #[.slice (some ⟨w.heap.size, 0, none⟩) 3 3, .nilIface]) ∧
      w' = w.alloc (.cells #[.int .i64 (endI n start st hs true), .int .i64 (endI n stop st he false), .int .i64 st] 3) := by
  rcases hst with ⟨rfl, rfl⟩ | ⟨rfl, rfl, hz⟩
  · exact csp_one n start stop hs he b w hn hn2 ha ha2 hb hb2 c0 c1 c2 c3 c5
  · exact csp_step n start stop st hs he b w hn hn2 ha ha2 hb hb2 hz c0 c1 c2 c3 c4 c5

/-- The six cells of the three slice parameters. -/
structure Six (w : World) (b : Nat) (start stop step : Int) (hs he hp : Bool) : Prop where
  c0 : w.cell? ⟨b, 0, none⟩ = some (.int .i64 start)
  c1 : w.cell? ⟨b, 1, none⟩ = some (.bool hs)
  c2 : w.cell? ⟨b, 2, none⟩ = some (.int .i64 stop)
  c3 : w.cell? ⟨b, 3, none⟩ = some (.bool he)
  c4 : w.cell? ⟨b, 4, none⟩ = some (.int .i64 step)
  c5 : w.cell? ⟨b, 5, none⟩ = some (.bool hp)

theorem slice_zero (g n c p : Nat) (w : World)
    (c4 : w.cell? ⟨p, 4, none⟩ = some (.int .i64 0)) (c5 : w.cell? ⟨p, 5, none⟩ = some (.bool true)) :
    Calls Uagg.prog 27 #[.slice (some ⟨g, 0, none⟩) n c, .slice (some ⟨p, 0, none⟩) 3 3] w fun e w' => ∃ t x, e = .returned (.tuple #[.slice none 0 0, .iface t x]) ∧ Below w.heap.size w w' := by
  go_enter Uagg.func27, Uagg.ntmps27
  go_wp2_with (go_at_call 30; refine (csp_zero _ _ _ c4 c5).mono ?_; rintro e w' ⟨t, x, d, u, rfl, rfl⟩)
  go_ret2
  exact ⟨t, x, rfl, (Below.refl _ _).alloc (Nat.le_refl _) _⟩

theorem bel_drewN {B : Nat} {a w : World} (h : Below B a w) (n : Nat) : Below B a (w.drewN n) := ⟨h.os, h.tape, h.output, h.size, h.block⟩

theorem app_below {w wr w1 : World} {e : TypeId} {v : Value} {j : Nat} {ys : List Value} {o : Obj} (hnx : Below w.heap.size w wr) (hown : wr.ownsRow w.heap.size e 1 v j ys) (hgrow : (wr.alloc o).grownBy w1 v.ownBlock) : Below w.heap.size w w1 := by
  have hsz := hnx.size
  refine (hnx.alloc hsz o).grown hgrow (by simp; omega) fun k hk => (hown.lt k hk).1

theorem shape_of {w : World} {base e : Nat} {v : Value} {n : Nat} {vs : List Value} (h : w.ownsRow base e 1 v n vs) (hne : v ≠ .slice none 0 0) : ∃ g c, v = .slice (some ⟨g, 0, none⟩) n c ∧ Rd w g vs := by
  rcases h.2 with ⟨h0, _⟩ | ⟨g, cap, cur, rfl, _⟩
  · exact absurd h0 hne
  · exact ⟨g, cap, rfl, Rd.of_own h⟩

theorem ifl_snoc (ys : List Nat) (x : Nat) : ifl (ys ++ [x]) = ifl ys ++ [.iface 29 (.float .f64 x)] := by simp [ifl]

set_option maxHeartbeats 1600000 in
theorem slice_up (g n c p : Nat) (xs : List Nat) (start stop step st : Int) (hs he hp : Bool) (w : World) (hn : n ≤ 131072) (hx : xs.length = n) (h : Rd w g (ifl xs)) (h6 : Six w p start stop step hs he hp)
    (ha : -9223372036854775808 ≤ start) (ha2 : start ≤ 9223372036854775807) (hb : -9223372036854775808 ≤ stop) (hb2 : stop ≤ 9223372036854775807)
    (hst : (hp = false ∧ st = 1) ∨ (hp = true ∧ st = step ∧ (step == 0) = false)) (hpos : 0 < st) (hmax : st ≤ 9223372036854513663) :
    Calls Uagg.prog 27 #[.slice (some ⟨g, 0, none⟩) n c, .slice (some ⟨p, 0, none⟩) 3 3] w fun e w' => ∃ cnt g' c', e = .returned (.tuple #[.slice (some ⟨g', 0, none⟩) cnt c', .nilIface]) ∧
      Rd w' g' (ifl (picked xs (endI n start st hs true) st cnt)) ∧ Below w.heap.size w w' ∧
      (∀ t, t < cnt → trm (endI n start st hs true) st t < endI n stop st he false) ∧ endI n stop st he false ≤ trm (endI n start st hs true) st cnt := by
  obtain ⟨i0, hi, hz0, hz1, hz2⟩ := info_parts info20
  have HX : Hid (xs.length = n) := hx
  have HR : Hid (Rd w g (ifl xs)) := h
  have H6 : Hid (Six w p start stop step hs he hp) := h6
  have HST : Hid ((hp = false ∧ st = 1) ∨ (hp = true ∧ st = step ∧ (step == 0) = false)) := hst
  obtain ⟨r1, r2⟩ := (endI_range n start st hs true (by omega)).2 (by omega)
  obtain ⟨r3, r4⟩ := (endI_range n stop st he false (by omega)).2 (by omega)
  clear hx h h6 hst
  go_enter Uagg.func27, Uagg.ntmps27
  go_wp2_with (go_at_call 30; refine (csp_both _ start stop step st hs he hp _ _ (by omega) (by omega) ha ha2 hb hb2 HST.out H6.out.c0 H6.out.c1 H6.out.c2 H6.out.c3 H6.out.c4 H6.out.c5).mono ?_; rintro e w' ⟨rfl, rfl⟩)
  go_quiet (fail)
  go_wp2
  generalize hS : endI (↑n) start st hs true = S at r1 r2 ⊢
  generalize hE : endI (↑n) stop st he false = E at r3 r4 ⊢
  have HS : Hid (endI (↑n) start st hs true = S) := hS
  have HE : Hid (endI (↑n) stop st he false = E) := hE
  clear hS hE
  go_loopw [11, 12] (fun r i wr => ∃ (j : Nat) (x : Int), i = .int .i64 x ∧ S + j ≤ x ∧ Hid (x = trm S st j) ∧ wr.ownsRow w.heap.size 20 1 r j (ifl (picked xs S st j)) ∧ Hid (r ≠ .slice none 0 0) ∧ Below w.heap.size w wr ∧ Hid (∀ t, t < j → trm S st t < E))
    (fun _ i _ => (E - intOf i).toNat)
  case atStart =>
    refine ⟨0, S, rfl, by simp, rfl, ?_, by simp [Hid], ?_, fun t ht => by omega⟩
    · have := World.ownsRow_made (base := w.heap.size) (e := 20) (size := 1) ((w.alloc (.cells #[.int .i64 S, .int .i64 E, .int .i64 st] 3)).drewN nq) #[] 0 (by simp) (Nat.zero_le _) rfl
      simpa [ifl, picked_zero] using this
    · exact (bel_drewN ((Below.refl w.heap.size w).alloc (Nat.le_refl _) _) _).alloc (by simp) _
  case round =>
    obtain ⟨j, x, rfl, hjx, hxt, hown, hnil, hnx, hall⟩ := hrel
    by_cases hlt : x < E
    · have hxn : x.toNat < xs.length := by rw [HX.out]; omega
      have hx0 : 0 ≤ x := by omega
      have hxn' : x < (n : Int) := by omega
      have hcx : wr.cell? ⟨g, x.toNat, none⟩ = some (.iface 29 (.float .f64 (xs.getD x.toNat 0))) := (HR.out.belowAll hnx).2 x.toNat _ (ifl_get xs x.toNat hxn)
      generalize hu : xs.getD x.toNat 0 = u at hcx
      have HU : Hid (xs.getD x.toNat 0 = u) := hu
      clear hu hxn
      have hjb : j ≤ 131072 := by omega
      go_wp2_with (at_builtin; refine wpList_append_own _ rfl (.tmp 43) (.tmp 48) 46 rfl w.heap.size 20 i0 .nilIface 1 16 Uagg.underlying46 hi hz0 hz1 hz2 rfl (by decide) _ _ _ rfl (hown.alloc _) ⟨wr.heap.size, 0, none⟩ 1 1 [.iface 29 (.float .f64 u)] rfl rfl ?c1 ?c2 ?c3 ?c4 ?c5 ?_)
      case c1 =>
        intro j u hj
        match j, hj with
        | 0, hj => simp at hj; subst hj; simp [Addr.add]
      case c2 => intro u hu; simp at hu; subst hu; rfl
      case c3 => unfold maxLen; omega
      case c4 => omega
      case c5 => have := hnx.size; simp; omega
      · intro v' w1 hown' hgrow hn'
        have hbel := app_below hnx hown hgrow
        have HB : Hid (Below w.heap.size w w1) := hbel
        have HO : Hid (w1.ownsRow w.heap.size 20 1 v' (j + 1) (ifl (picked xs S st (j + 1)))) := by
          show World.ownsRow _ _ _ _ _ _ _
          rw [picked_succ, ifl_snoc, ← hxt.out, HU.out]; exact hown'
        have HN : Hid (v' ≠ .slice none 0 0) := hn'
        clear hown' hgrow hn' hown hcx hnx hbel
        go_wp2
        go_roundw
        case rel => exact ⟨j + 1, x + st, by go_num, by omega, by show _ = _; rw [trm_succ, ← hxt.out], HO.out, HN, HB.out, fun t ht => by
          by_cases e : t = j
          · subst e; rw [← hxt.out]; exact hlt
          · exact hall.out t (by omega)⟩
        case measure => simp [intOf]; omega
    · obtain ⟨g', c', hv, hr⟩ := shape_of hown hnil.out
      rw [hv]
      go_wp2
      go_ret2
      obtain rfl := HS.out
      obtain rfl := HE.out
      exact ⟨j, g', ⟨c', rfl⟩, hr, hnx, hall.out, by rw [← hxt.out]; omega⟩
end Go.Proofs.Youagw.Rd
