/-
  CONTRACT: ZZtoArrayNumKinds.
-/
import Derived.Test.YouagwKinds
namespace Go.Proofs.Youagw.Rd
open Go.RowKit
open Go.Proofs.Youagw.Lists Go.Proofs.Youagw.Clone Go.Proofs.Youagw.Asserts
attribute [local go_sem] run_store_float run_store_iface run_store_nilIface

/-- What comes back: all kinds 0: the floats, in a new row, and true; else nil and false. -/
def Back (w w' : World) (n : Nat) (xs : List Nat) (zs : List Int) (v : Value) (ok : Bool) : Prop :=
  Below w.heap.size w w' ∧ (((∀ j, j < n → zs.getD j 0 = 0) ∧ ok = true ∧ ∃ g, v = .slice (some ⟨g, 0, none⟩) n n ∧ Rd w' g (fl xs)) ∨ ((∃ j, j < n ∧ zs.getD j 0 ≠ 0) ∧ ok = false ∧ v = .slice none 0 0))

theorem Back.later {w wr w' : World} {n : Nat} {xs : List Nat} {zs : List Int} {v : Value} {ok : Bool} (h : Back wr w' n xs zs v ok) (hb : Below w.heap.size w wr) : Back w w' n xs zs v ok :=
  ⟨hb.trans (h.1.mono hb.size), h.2⟩

theorem toNum_vals (g n cap : Nat) (xs : List Nat) (zs : List Int) (w : World) (hl : n ≤ 1048576) (hx : xs.length = n) (hz : zs.length = n) (h : Rd w g (vals xs zs)) :
    Calls Uagg.prog 28 #[.iface 46 (.slice (some ⟨g, 0, none⟩) n cap)] w fun e w' => ∃ v ok, e = .returned (.tuple #[v, .bool ok]) ∧ Back w w' n xs zs v ok := by
  by_cases hall : ∀ j, j < n → zs.getD j 0 = 0
  · have hv := vals_all xs zs (by omega) (by rw [hz]; exact hall)
    rw [hv] at h
    exact (toNum_all g n cap xs w hl hx h).mono fun e w' ⟨h1, h2, h3⟩ => ⟨_, _, h1, h3, .inl ⟨hall, rfl, _, rfl, h2⟩⟩
  · have hex : ∃ j, j < n ∧ zs.getD j 0 ≠ 0 := by
      refine Classical.byContradiction fun hno => hall fun j hj => Classical.byContradiction fun hne => hno ⟨j, hj, hne⟩
    obtain ⟨j, hj, hne⟩ := hex
    refine (toNum_not g n cap (vals xs zs) w hl (by rw [vals_length, hz]) h ?_ ⟨j, _, vals_get xs zs j (by omega), val_bad _ _ hne⟩).mono fun e w' ⟨h1, h2⟩ => ⟨_, _, h1, h2, .inr ⟨⟨j, hj, hne⟩, rfl, rfl⟩⟩
    intro v hv
    obtain ⟨i, -, rfl⟩ := List.mem_map.1 hv
    exact val_either _ _

set_option maxHeartbeats 1600000 in
theorem kinds_any (g g' n c c' : Nat) (xs : List Nat) (zs : List Int) (w : World) (hl : n ≤ 1048576) (hx : xs.length = n) (hz : zs.length = n) (h : Rd w g (fl xs)) (h' : Rd w g' (kl zs)) :
    Calls Uagg.prog 22 #[.slice (some ⟨g, 0, none⟩) n c, .slice (some ⟨g', 0, none⟩) n c'] w fun e w' => ∃ v ok, e = .returned (.tuple #[v, .bool ok]) ∧ Back w w' n xs zs v ok := by
  obtain ⟨i0, hi, hz0, hz1, hz2⟩ := info_parts info20
  have HX : Hid (xs.length = n) := hx
  have HZ : Hid (zs.length = n) := hz
  have HF : Hid ((vals xs zs).length = n) := by show _ = _; rw [vals_length, hz]
  have HR : Hid (Rd w g (fl xs)) := h
  have HR' : Hid (Rd w g' (kl zs)) := h'
  clear hx hz h h'
  go_enter Uagg.func22, Uagg.ntmps22
  go_wp2_with (at_make; refine wpList_make_full _ rfl (.tmp 9) (.tmp 9) 46 rfl w.heap.size 20 i0 .nilIface 1 Uagg.underlying46 hi hz0 hz1 .i64 .i64 _ _ n rfl rfl rfl rfl (by rw [hz2]; omega) (by unfold maxLen; omega) (Nat.le_refl _) ?_; intro w1 hown hgrow)
  have hof := made_fill HF.out rfl hown
  have hbl : Below w.heap.size w w1 := (Below.refl _ _).grown hgrow (Nat.le_refl _) (by simp)
  clear hown hgrow
  go_loopw [7] (fun i wr => ∃ k : Nat, k ≤ n ∧ i = .int .i64 k ∧ wr.ownsRow w.heap.size 20 1 (.slice (some ⟨w.heap.size, 0, none⟩) n n) n (fill (vals xs zs) .nilIface k) ∧ Below w.heap.size w wr)
    (fun i _ => n - (intOf i).toNat)
  case atStart => exact ⟨0, Nat.zero_le _, rfl, hof, hbl⟩
  case round =>
    clear hof hbl
    obtain ⟨k, hk, rfl, hown, hnx⟩ := hrel
    by_cases hlt : k < n
    · have hcx : wr.cell? ⟨g, k, none⟩ = some (.float .f64 (xs.getD k 0)) := (HR.out.belowAll hnx).fl k (by rw [HX.out]; exact hlt)
      have hcz : wr.cell? ⟨g', k, none⟩ = some (.int .i8 (zs.getD k 0)) := (HR'.out.belowAll hnx).2 k _ (kl_get zs k (by rw [HZ.out]; exact hlt))
      have hv := vals_get xs zs k (by rw [HZ.out]; exact hlt)
      have hlt' : (k : Int) < (n : Int) := by omega
      generalize zs.getD k 0 = z at hcz hv
      by_cases z0 : z = 0
      · subst z0
        obtain ⟨f1, f2, f3, f4⟩ := fill_round HF.out (Nat.le_refl _) hnx hown hv
        have R : Hid (_ ∧ _) := ⟨f3, f4⟩
        clear f3 f4 hown hnx hv
        go_wp2
        go_roundw
        case rel => exact ⟨k + 1, by omega, by go_num, R.out.1, R.out.2⟩
        case measure => simp [intOf]; omega
      by_cases z1 : z = 1
      · subst z1
        obtain ⟨f1, f2, f3, f4⟩ := fill_round HF.out (Nat.le_refl _) hnx hown hv
        have R : Hid (_ ∧ _) := ⟨f3, f4⟩
        clear f3 f4 hown hnx hv z0
        go_wp2
        go_roundw
        case rel => exact ⟨k + 1, by omega, by go_num, R.out.1, R.out.2⟩
        case measure => simp [intOf]; omega
      by_cases z2 : z = 2
      · subst z2
        obtain ⟨f1, f2, f3, f4⟩ := fill_round HF.out (Nat.le_refl _) hnx hown hv
        have R : Hid (_ ∧ _) := ⟨f3, f4⟩
        clear f3 f4 hown hnx hv z0 z1
        go_wp2
        go_roundw
        case rel => exact ⟨k + 1, by omega, by go_num, R.out.1, R.out.2⟩
        case measure => simp [intOf]; omega
      by_cases z3 : z = 3
      · subst z3
        obtain ⟨f1, f2, f3, f4⟩ := fill_round HF.out (Nat.le_refl _) hnx hown hv
        have R : Hid (_ ∧ _) := ⟨f3, f4⟩
        clear f3 f4 hown hnx hv z0 z1 z2
        go_wp2
        go_roundw
        case rel => exact ⟨k + 1, by omega, by go_num, R.out.1, R.out.2⟩
        case measure => simp [intOf]; omega
      · have e4 : val (xs.getD k 0) z = .iface 3 (.int .i64 1) := by simp [val, z0, z1, z2, z3]
        rw [e4] at hv
        obtain ⟨f1, f2, f3, f4⟩ := fill_round HF.out (Nat.le_refl _) hnx hown hv
        have R : Hid (_ ∧ _) := ⟨f3, f4⟩
        have y0 : (z == 0) = false := by simpa using z0
        have y1 : (z == 1) = false := by simpa using z1
        have y2 : (z == 2) = false := by simpa using z2
        have y3 : (z == 3) = false := by simpa using z3
        clear f3 f4 hown hnx hv z0 z1 z2 z3 e4
        go_wp2
        go_roundw
        case rel => exact ⟨k + 1, by omega, by go_num, R.out.1, R.out.2⟩
        case measure => simp [intOf]; omega
    · have hkn : k = n := by omega
      subst hkn
      rw [fill_all _ _ _ (by rw [HF.out]; exact Nat.le_refl _)] at hown
      have hrd : Hid (Rd wr w.heap.size (vals xs zs)) := Rd.of_own hown
      clear hown
      go_wp2_with (go_at_call 28; refine (toNum_vals _ _ _ xs zs _ hl HX.out HZ.out hrd.out).mono ?_; rintro e w' ⟨v, ok, rfl, hpost⟩)
      go_ret2
      exact ⟨v, ok, rfl, hpost.later hnx⟩
end Go.Proofs.Youagw.Rd
