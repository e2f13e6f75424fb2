/-
  CONTRACTS: zzCloneK and ZZtoArrayNumKinds.
-/
import Derived.Test.YouagwToNum
namespace Go.Proofs.Youagw.Rd
open Go.RowKit
open Go.Proofs.Youagw.Lists Go.Proofs.Youagw.Clone Go.Proofs.Youagw.Asserts
attribute [local go_sem] run_store_float run_store_iface run_store_nilIface

theorem info41 : (Uagg.prog.info? 41).map (fun i => (i.zero, i.size, i.bytes)) = some (some (.int .i8 0), 1, 1) := by kernel_rfl
theorem info20 : (Uagg.prog.info? 20).map (fun i => (i.zero, i.size, i.bytes)) = some (some .nilIface, 1, 16) := by kernel_rfl
theorem eql37 : ∀ (w : World) (a : Option Addr) (n c n' c' : Nat), (binOp .eql 37 (.slice a n c) (.slice none n' c')).run Uagg.prog w = .ok (.bool a.isNone) w :=
  fun w a n c n' c' => Lib.run_eql_slice_nil w _ _ a n c n' c' Uagg.underlying37

/-- The numbers as values of int8. -/
def kl (zs : List Int) : List Value := zs.map (Value.int .i8)
theorem kl_length (zs : List Int) : (kl zs).length = zs.length := by simp [kl]
theorem kl_get (zs : List Int) (k : Nat) (h : k < zs.length) : (kl zs)[k]? = some (.int .i8 (zs.getD k 0)) := by
  simp [kl, List.getElem?_eq_getElem h]

set_option maxHeartbeats 800000 in
theorem cloneK (b off len cap : Nat) (zs : List Int) (w : World) (hl : len ≤ 1048576) (hx : zs.length = len) (hb : b < w.heap.size)
    (hc : ∀ j, j < len → w.cell? ⟨b, off + j, none⟩ = some (.int .i8 (zs.getD j 0))) :
    Calls Uagg.prog 21 #[.slice (some ⟨b, off, none⟩) len cap] w fun e w' =>
      e = .returned (.slice (some ⟨w.heap.size, 0, none⟩) len len) ∧ Rd w' w.heap.size (kl zs) ∧ Below w.heap.size w w' := by
  obtain ⟨i0, hi, hz0, hz1, hz2⟩ := info_parts info41
  have q37 := eql37
  have HX : Hid (zs.length = len) := hx
  have HF : Hid ((kl zs).length = len) := by show _ = _; rw [kl_length, hx]
  clear hx
  go_enter Uagg.func21, Uagg.ntmps21
  go_wp2_with (at_make; refine wpList_make_full _ rfl (.tmp 8) (.tmp 8) 37 rfl w.heap.size 41 i0 (.int .i8 0) 1 Uagg.underlying37 hi hz0 hz1 .i64 .i64 _ _ len rfl rfl rfl rfl (by rw [hz2]; omega) (by unfold maxLen; omega) (Nat.le_refl _) ?_; intro w1 hown hgrow)
  have hof := made_fill HF.out rfl hown
  have hbl : Below w.heap.size w w1 := (Below.refl _ _).grown hgrow (Nat.le_refl _) (by simp)
  clear hown hgrow
  go_loopw [4] (fun i wr => ∃ k : Nat, k ≤ len ∧ i = .int .i64 k ∧ wr.ownsRow w.heap.size 41 1 (.slice (some ⟨w.heap.size, 0, none⟩) len len) len (fill (kl zs) (.int .i8 0) k) ∧ Below w.heap.size w wr)
    (fun i _ => len - (intOf i).toNat)
  case atStart => exact ⟨0, Nat.zero_le _, rfl, hof, hbl⟩
  case round =>
    clear hof hbl
    obtain ⟨k, hk, rfl, hown, hnx⟩ := hrel
    by_cases hlt : k < len
    · have hcx : wr.cell? ⟨b, off + k, none⟩ = some (.int .i8 (zs.getD k 0)) := (hnx.cell (p := ⟨b, off + k, none⟩) hb).trans (hc k hlt)
      obtain ⟨f1, f2, f3, f4⟩ := fill_round HF.out (Nat.le_refl _) hnx hown (kl_get zs k (by rw [HX.out]; exact hlt))
      have R : Hid (_ ∧ _) := ⟨f3, f4⟩
      clear f3 f4 hown hnx hc
      go_wp2
      go_roundw
      case rel => exact ⟨k + 1, by omega, by go_num, R.out.1, R.out.2⟩
      case measure => simp [intOf]; omega
    · go_wp2
      go_ret
      have : k = len := by omega
      subst this
      rw [fill_all _ _ _ (by rw [HF.out]; exact Nat.le_refl _)] at hown
      exact ⟨rfl, Rd.of_own hown, hnx⟩

theorem cloneK0 (a : Option Addr) (cap : Nat) (w : World) :
    Calls Uagg.prog 21 #[.slice a 0 cap] w fun e w' => ∃ a', e = .returned (.slice a' 0 0) ∧ Below w.heap.size w w' := by
  have q37 := eql37
  cases a with
  | none =>
    go_enter Uagg.func21, Uagg.ntmps21
    go_wp2
    go_ret
    exact ⟨_, rfl, Below.refl _ _⟩
  | some x =>
    obtain ⟨i0, hi, hz0, hz1, hz2⟩ := info_parts info41
    go_enter Uagg.func21, Uagg.ntmps21
    go_wp2_with (at_make; refine wpList_make_full _ rfl (.tmp 8) (.tmp 8) 37 rfl w.heap.size 41 i0 (.int .i8 0) 1 Uagg.underlying37 hi hz0 hz1 .i64 .i64 _ _ 0 rfl rfl rfl rfl (by rw [hz2]; omega) (by unfold maxLen; omega) (Nat.le_refl _) ?_; intro w1 hown hgrow)
    have hbl : Below w.heap.size w w1 := (Below.refl _ _).grown hgrow (Nat.le_refl _) (by simp)
    clear hown hgrow
    refine wp_loop_rounds 1 ?_; rw [rounds_succ]
    go_wp2
    go_ret
    exact ⟨_, rfl, hbl⟩

/-- What ZZtoArrayNumKinds lays for the kind z and the bits x. -/
def val (x : Nat) (z : Int) : Value :=
  if z = 0 then .iface 29 (.float .f64 x) else if z = 1 then .iface 9 (.string { data := #[49] }) else if z = 2 then .nilIface else if z = 3 then .iface 4 (.bool true) else .iface 3 (.int .i64 1)
def vals (xs : List Nat) (zs : List Int) : List Value := (List.range zs.length).map fun i => val (xs.getD i 0) (zs.getD i 0)
theorem vals_length (xs : List Nat) (zs : List Int) : (vals xs zs).length = zs.length := by simp [vals]
theorem vals_get (xs : List Nat) (zs : List Int) (k : Nat) (h : k < zs.length) : (vals xs zs)[k]? = some (val (xs.getD k 0) (zs.getD k 0)) := by
  simp [vals, h]
theorem val_zero (x : Nat) : val x 0 = .iface 29 (.float .f64 x) := rfl
theorem val_bad (x : Nat) (z : Int) (h : z ≠ 0) : Bad (val x z) := by
  unfold val Bad
  rw [if_neg h]
  repeat' split
  all_goals simp
theorem val_either (x : Nat) (z : Int) : (∃ b, val x z = .iface 29 (.float .f64 b)) ∨ Bad (val x z) := by
  by_cases h : z = 0
  · subst h; exact .inl ⟨x, rfl⟩
  · exact .inr (val_bad x z h)
theorem vals_all (xs : List Nat) (zs : List Int) (hl : xs.length = zs.length) (h : ∀ j, j < zs.length → zs.getD j 0 = 0) : vals xs zs = ifl xs := by
  apply List.ext_getElem?
  intro j
  by_cases hj : j < zs.length
  · rw [vals_get xs zs j hj, ifl_get xs j (by omega), h j hj, val_zero]
  · rw [List.getElem?_eq_none (by rw [vals_length]; omega), List.getElem?_eq_none (by rw [ifl_length]; omega)]

end Go.Proofs.Youagw.Rd
