/-
  CONTRACT: zzCloneF.
-/
import Derived.Test.YouagwChecked
import Derived.Test.YouagwLists
import Derived.WalkSpells
import Derived.WalkLawsBesides
namespace Go.Proofs.Youagw.Clone
open Go.RowKit
open Go.Proofs.Youagw.Lists
attribute [local go_sem] run_store_float run_store_iface run_store_nilIface

theorem info29 : (Uagg.prog.info? 29).map (fun i => (i.zero, i.size, i.bytes)) = some (some (.float .f64 0), 1, 8) := by kernel_rfl

/-- The bits as values. -/
def fl (xs : List Nat) : List Value := xs.map (Value.float .f64)
theorem fl_length (xs : List Nat) : (fl xs).length = xs.length := by simp [fl]
theorem fl_get (xs : List Nat) (k : Nat) (h : k < xs.length) : (fl xs)[k]? = some (.float .f64 (xs.getD k 0)) := by
  simp [fl, List.getElem?_eq_getElem h]

theorem eql22 : ∀ (w : World) (a : Option Addr) (n c n' c' : Nat), (binOp .eql 22 (.slice a n c) (.slice none n' c')).run Uagg.prog w = .ok (.bool a.isNone) w :=
  fun w a n c n' c' => Lib.run_eql_slice_nil w _ _ a n c n' c' Uagg.underlying22

set_option maxHeartbeats 800000 in
theorem clone_some (b off len cap : Nat) (xs : List Nat) (w : World) (hl : len ≤ 131072) (hx : xs.length = len) (hb : b < w.heap.size)
    (hc : ∀ j, j < len → w.cell? ⟨b, off + j, none⟩ = some (.float .f64 (xs.getD j 0))) :
    Calls Uagg.prog 12 #[.slice (some ⟨b, off, none⟩) len cap] w fun e w' =>
      e = .returned (.slice (some ⟨w.heap.size, 0, none⟩) len len) ∧ w'.ownsRow w.heap.size 29 1 (.slice (some ⟨w.heap.size, 0, none⟩) len len) len (fl xs) ∧ Below w.heap.size w w' := by
  obtain ⟨i0, hi, hz0, hz1, hz2⟩ := info_parts info29
  have q22 := eql22
  have hfx : (fl xs).length = len := by rw [fl_length, hx]
  have HX : Hid (xs.length = len) := hx
  have HF : Hid ((fl xs).length = len) := hfx
  clear hx hfx
  go_enter Uagg.func12, Uagg.ntmps12
  go_wp2_with (at_make; refine wpList_make_full _ rfl (.tmp 8) (.tmp 8) 22 rfl w.heap.size 29 i0 (.float .f64 0) 1 Uagg.underlying22 hi hz0 hz1 .i64 .i64 _ _ len rfl rfl rfl rfl (by rw [hz2]; omega) (by unfold maxLen; omega) (Nat.le_refl _) ?_; intro w1 hown hgrow)
  have hof := made_fill HF.out rfl hown
  have hbl : Below w.heap.size w w1 := (Below.refl _ _).grown hgrow (Nat.le_refl _) (by simp)
  clear hown hgrow
  go_loopw [4] (fun i wr => ∃ k : Nat, k ≤ len ∧ i = .int .i64 k ∧ wr.ownsRow w.heap.size 29 1 (.slice (some ⟨w.heap.size, 0, none⟩) len len) len (fill (fl xs) (.float .f64 0) k) ∧ Below w.heap.size w wr)
    (fun i _ => len - (intOf i).toNat)
  case atStart => exact ⟨0, Nat.zero_le _, rfl, hof, hbl⟩
  case round =>
    clear hof hbl
    obtain ⟨k, hk, rfl, hown, hnx⟩ := hrel
    by_cases hlt : k < len
    · have hcx : wr.cell? ⟨b, off + k, none⟩ = some (.float .f64 (xs.getD k 0)) := (hnx.cell (p := ⟨b, off + k, none⟩) hb).trans (hc k hlt)
      obtain ⟨f1, f2, f3, f4⟩ := fill_round HF.out (Nat.le_refl _) hnx hown (fl_get xs k (by rw [HX.out]; exact hlt))
      have R : Hid (_ ∧ _) := ⟨f3, f4⟩
      clear f3 f4 hown hnx hc
      go_wp2
      go_roundw
      case rel => exact ⟨k + 1, by omega, by go_num, R.out.1, R.out.2⟩
      case measure => simp [intOf]; omega
    · go_wp2
      go_ret
      have : k = len := by omega
      subst this
      rw [fill_all _ _ _ (by rw [HF.out]; exact Nat.le_refl _)] at hown
      exact ⟨rfl, hown, hnx⟩

theorem clone_nil (w : World) : Calls Uagg.prog 12 #[.slice none 0 0] w fun e w' => e = .returned (.slice none 0 0) ∧ w' = w := by
  have q22 := eql22
  go_enter Uagg.func12, Uagg.ntmps12
  go_wp2
  go_ret
  exact ⟨rfl, rfl⟩

theorem clone_zero (x : Addr) (cap : Nat) (w : World) :
    Calls Uagg.prog 12 #[.slice (some x) 0 cap] w fun e w' =>
      e = .returned (.slice (some ⟨w.heap.size, 0, none⟩) 0 0) ∧ w'.ownsRow w.heap.size 29 1 (.slice (some ⟨w.heap.size, 0, none⟩) 0 0) 0 (fl []) ∧ Below w.heap.size w w' := by
  obtain ⟨i0, hi, hz0, hz1, hz2⟩ := info_parts info29
  have q22 := eql22
  go_enter Uagg.func12, Uagg.ntmps12
  go_wp2_with (at_make; refine wpList_make_full _ rfl (.tmp 8) (.tmp 8) 22 rfl w.heap.size 29 i0 (.float .f64 0) 1 Uagg.underlying22 hi hz0 hz1 .i64 .i64 _ _ 0 rfl rfl rfl rfl (by rw [hz2]; omega) (by unfold maxLen; omega) (Nat.le_refl _) ?_; intro w1 hown hgrow)
  have hof : w1.ownsRow w.heap.size 29 1 (.slice (some ⟨w.heap.size, 0, none⟩) 0 0) 0 (fl []) := by
    have := made_fill (ys := fl []) rfl rfl hown
    rwa [fill_all (fl []) _ 0 (Nat.le_refl _)] at this
  have hbl : Below w.heap.size w w1 := (Below.refl _ _).grown hgrow (Nat.le_refl _) (by simp)
  clear hown hgrow
  refine wp_loop_rounds 1 ?_; rw [rounds_succ]
  go_wp2
  go_ret
  exact ⟨rfl, hof, hbl⟩

theorem addr_add (b off j : Nat) : (⟨b, off, none⟩ : Addr).add j = ⟨b, off + j, none⟩ := by
  simp only [Addr.add]
  split <;> simp_all

/-- WHAT THE WALK IS TOLD OF A []float64 THAT CAME IN AND IS NOT NIL: the bits of its elements, each in its cell. -/
def InF (w : World) (x : Addr) (len : Nat) (xs : List Nat) : Prop :=
  xs.length = len ∧ ∀ i, i < len → w.cell? (x.add i) = some (.float .f64 (xs.getD i 0))

theorem clone_full (x : Addr) (len cap : Nat) (xs : List Nat) (w : World) (hl : len ≤ 131072) (h : InF w x len xs) :
    Calls Uagg.prog 12 #[.slice (some x) len cap] w fun e w' =>
      e = .returned (.slice (some ⟨w.heap.size, 0, none⟩) len len) ∧ w'.ownsRow w.heap.size 29 1 (.slice (some ⟨w.heap.size, 0, none⟩) len len) len (fl xs) ∧ Below w.heap.size w w' := by
  obtain ⟨hx, hc⟩ := h
  by_cases h0 : len = 0
  · subst h0
    obtain rfl : xs = [] := List.length_eq_zero_iff.1 hx
    exact clone_zero x cap w
  · obtain ⟨b, off, spot⟩ := x
    have c0 := hc 0 (by omega)
    have hspot : spot = none := by simpa [Addr.add] using World.cell?_spot c0
    subst hspot
    have hb : b < w.heap.size := by simpa [Addr.add] using World.block_lt_of_cell? w _ c0
    exact clone_some b off len cap xs w hl hx hb (fun j hj => by have := hc j hj; rwa [addr_add] at this)
end Go.Proofs.Youagw.Clone
