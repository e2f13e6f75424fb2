/-
  CONTRACT: toArrayNum over a []interface{}.
-/
import Derived.Test.YouagwRd
import Derived.Test.YouagwAsserts
namespace Go.Proofs.Youagw.Rd
open Go.RowKit
open Go.Proofs.Youagw.Lists Go.Proofs.Youagw.Clone Go.Proofs.Youagw.Asserts
attribute [local go_sem] run_store_float run_store_iface run_store_nilIface as46_46 as29_29 as9_29 as4_29 as3_29 asNil_29

/-- The bits as interface values that hold float64s. -/
def ifl (xs : List Nat) : List Value := xs.map fun x => .iface 29 (.float .f64 x)
theorem ifl_length (xs : List Nat) : (ifl xs).length = xs.length := by simp [ifl]
theorem ifl_get (xs : List Nat) (k : Nat) (h : k < xs.length) : (ifl xs)[k]? = some (.iface 29 (.float .f64 (xs.getD k 0))) := by
  simp [ifl, List.getElem?_eq_getElem h]

set_option maxHeartbeats 800000 in
theorem toNum_all (g n cap : Nat) (xs : List Nat) (w : World) (hl : n ≤ 1048576) (hx : xs.length = n) (h : Rd w g (ifl xs)) :
    Calls Uagg.prog 28 #[.iface 46 (.slice (some ⟨g, 0, none⟩) n cap)] w fun e w' =>
      e = .returned (.tuple #[.slice (some ⟨w.heap.size, 0, none⟩) n n, .bool true]) ∧ Rd w' w.heap.size (fl xs) ∧ Below w.heap.size w w' := by
  obtain ⟨i0, hi, hz0, hz1, hz2⟩ := info_parts info29
  have HX : Hid (xs.length = n) := hx
  have HF : Hid ((fl xs).length = n) := by show _ = _; rw [fl_length, hx]
  clear hx
  go_enter Uagg.func28, Uagg.ntmps28
  go_wp2_with (at_make; refine wpList_make_full _ rfl (.tmp 18) (.tmp 18) 22 rfl w.heap.size 29 i0 (.float .f64 0) 1 Uagg.underlying22 hi hz0 hz1 .i64 .i64 _ _ n rfl rfl rfl rfl (by rw [hz2]; omega) (by unfold maxLen; omega) (Nat.le_refl _) ?_; intro w1 hown hgrow)
  have hof := made_fill HF.out rfl hown
  have hbl : Below w.heap.size w w1 := (Below.refl _ _).grown hgrow (Nat.le_refl _) (by simp)
  clear hown hgrow
  go_loopw [22] (fun i wr => ∃ k : Nat, k ≤ n ∧ i = .int .i64 k ∧ wr.ownsRow w.heap.size 29 1 (.slice (some ⟨w.heap.size, 0, none⟩) n n) n (fill (fl xs) (.float .f64 0) k) ∧ Below w.heap.size w wr)
    (fun i _ => n - (intOf i).toNat)
  case atStart => exact ⟨0, Nat.zero_le _, rfl, hof, hbl⟩
  case round =>
    clear hof hbl
    obtain ⟨k, hk, rfl, hown, hnx⟩ := hrel
    by_cases hlt : k < n
    · have hcx : wr.cell? ⟨g, k, none⟩ = some (.iface 29 (.float .f64 (xs.getD k 0))) := (h.belowAll hnx).2 k _ (ifl_get xs k (by rw [HX.out]; exact hlt))
      obtain ⟨f1, f2, f3, f4⟩ := fill_round HF.out (Nat.le_refl _) hnx hown (fl_get xs k (by rw [HX.out]; exact hlt))
      have R : Hid (_ ∧ _) := ⟨f3, f4⟩
      clear f3 f4 hown hnx h
      go_wp2
      go_roundw
      case rel => exact ⟨k + 1, by omega, by go_num, R.out.1, R.out.2⟩
      case measure => simp [intOf]; omega
    · go_wp2
      go_ret2
      have : k = n := by omega
      subst this
      rw [fill_all _ _ _ (by rw [HF.out]; exact Nat.le_refl _)] at hown
      exact ⟨rfl, Rd.of_own hown, hnx⟩

/-- What toArrayNum refuses of an element. -/
def Bad (v : Value) : Prop := v = .nilIface ∨ (∃ u, v = .iface 9 u) ∨ (∃ u, v = .iface 4 u) ∨ ∃ u, v = .iface 3 u

set_option maxHeartbeats 1600000 in
theorem toNum_not (g n cap : Nat) (vs : List Value) (w : World) (hl : n ≤ 1048576) (hx : vs.length = n) (h : Rd w g vs)
    (hv : ∀ v ∈ vs, (∃ b, v = .iface 29 (.float .f64 b)) ∨ Bad v) (hb : ∃ (j : Nat) (u : Value), vs[j]? = some u ∧ Bad u) :
    Calls Uagg.prog 28 #[.iface 46 (.slice (some ⟨g, 0, none⟩) n cap)] w fun e w' =>
      e = .returned (.tuple #[.slice none 0 0, .bool false]) ∧ Below w.heap.size w w' := by
  obtain ⟨i0, hi, hz0, hz1, hz2⟩ := info_parts info29
  have HX : Hid (vs.length = n) := hx
  have HV : Hid (∀ v ∈ vs, (∃ b, v = .iface 29 (.float .f64 b)) ∨ Bad v) := hv
  have HB : Hid (∃ (j : Nat) (u : Value), vs[j]? = some u ∧ Bad u) := hb
  have HR : Hid (Rd w g vs) := h
  clear hx hv hb h
  go_enter Uagg.func28, Uagg.ntmps28
  go_wp2_with (at_make; refine wpList_make_full _ rfl (.tmp 18) (.tmp 18) 22 rfl w.heap.size 29 i0 (.float .f64 0) 1 Uagg.underlying22 hi hz0 hz1 .i64 .i64 _ _ n rfl rfl rfl rfl (by rw [hz2]; omega) (by unfold maxLen; omega) (Nat.le_refl _) ?_; intro w1 hown hgrow)
  have hof : ∃ L, w1.ownsRow w.heap.size 29 1 (.slice (some ⟨w.heap.size, 0, none⟩) n n) n L := ⟨_, hown⟩
  have hbl : Below w.heap.size w w1 := (Below.refl _ _).grown hgrow (Nat.le_refl _) (by simp)
  clear hown hgrow
  go_loopw [22] (fun i wr => ∃ k : Nat, k ≤ n ∧ i = .int .i64 k ∧ Hid (∃ L, wr.ownsRow w.heap.size 29 1 (.slice (some ⟨w.heap.size, 0, none⟩) n n) n L) ∧ Below w.heap.size w wr ∧ Hid (∀ (j : Nat) (u : Value), j < k → vs[j]? = some u → ¬ Bad u))
    (fun i _ => n - (intOf i).toNat)
  case atStart => exact ⟨0, Nat.zero_le _, rfl, hof, hbl, fun j u hj => by omega⟩
  case round =>
    clear hof hbl
    obtain ⟨k, hk, rfl, hown, hnx, hgood⟩ := hrel
    by_cases hlt : k < n
    · have hkl : k < vs.length := by rw [HX.out]; exact hlt
      have hget : vs[k]? = some vs[k] := List.getElem?_eq_getElem hkl
      have hcx := (HR.out.belowAll hnx).2 k _ hget
      have hlt' : (k : Int) < (n : Int) := by omega
      rcases HV.out vs[k] (List.getElem_mem hkl) with ⟨b, hbv⟩ | hbad
      · obtain ⟨L, hL⟩ := hown.out
        have f1 : ∃ z, wr.cell? ⟨w.heap.size, k, none⟩ = some z := ⟨L[k]'(by rw [hL.1]; omega), by rw [hL.cellAt k (by omega)]; exact List.getElem?_eq_getElem _⟩
        obtain ⟨z, f1⟩ := f1
        have f2 := hL.frozenAt k
        have R : Hid (_ ∧ _) := ⟨(hL.stored k (.float .f64 b)).1, hnx.setCell (p := ⟨w.heap.size, k, none⟩) (Nat.le_refl _) (.float .f64 b)⟩
        have G : Hid (∀ (j : Nat) (u : Value), j < k + 1 → vs[j]? = some u → ¬ Bad u) := fun j u hj hu => by
          by_cases e : j = k
          · subst e
            rw [hget, hbv] at hu
            obtain rfl := Option.some.inj hu
            unfold Bad
            rintro (h | ⟨_, h⟩ | ⟨_, h⟩ | ⟨_, h⟩) <;> simp at h
          · exact hgood.out j u (by omega) hu
        rw [hbv] at hcx
        clear hL hget hbv hnx hown
        go_wp2
        go_roundw
        case rel => exact ⟨k + 1, by omega, by go_num, ⟨_, R.out.1⟩, R.out.2, G⟩
        case measure => simp [intOf]; omega
      · clear hget hown hgood
        rcases hbad with hbv | ⟨u, hbv⟩ | ⟨u, hbv⟩ | ⟨u, hbv⟩
        all_goals
          rw [hbv] at hcx
          clear hbv
          go_wp2
          go_ret2
          exact ⟨rfl, hnx⟩
    · exfalso
      obtain ⟨j, u, hj, hu⟩ := HB.out
      have : j < vs.length := (List.getElem?_eq_some_iff.1 hj).1
      rw [HX.out] at this
      exact hgood.out j u (by omega) hj hu
end Go.Proofs.Youagw.Rd
