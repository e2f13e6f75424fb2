/-
  ROWS THAT ARE READ ('Rd'), and the contracts of the cloners, zzSameF and zzEqF over them.
-/
import Derived.Test.YouagwClone
import Derived.Deep.QuietTactic
import Derived.BigQuiet
namespace Go.Proofs.Youagw.Rd
open Go.RowKit
open Go.Proofs.Youagw.Lists Go.Proofs.Youagw.Clone

/-- Block g holds the values vs from its head on. -/
def Rd (w : World) (g : Nat) (vs : List Value) : Prop := g < w.heap.size ∧ ∀ j u, vs[j]? = some u → w.cell? ⟨g, j, none⟩ = some u

theorem Rd.below {w w' : World} {g B : Nat} {vs : List Value} (h : Rd w g vs) (hb : Below B w w') (hg : g < B) : Rd w' g vs :=
  ⟨Nat.lt_of_lt_of_le h.1 hb.size, fun j u hj => (hb.cell (p := ⟨g, j, none⟩) hg).trans (h.2 j u hj)⟩

theorem Rd.belowAll {w w' : World} {g : Nat} {vs : List Value} (h : Rd w g vs) (hb : Below w.heap.size w w') : Rd w' g vs := h.below hb h.1

theorem Rd.of_own {w : World} {base e g n cap : Nat} {vs : List Value} (h : w.ownsRow base e 1 (.slice (some ⟨g, 0, none⟩) n cap) n vs) : Rd w g vs := by
  refine ⟨(h.lt g rfl).2, fun j u hj => ?_⟩
  obtain ⟨hl, -⟩ := List.getElem?_eq_some_iff.1 hj
  have := h.1
  rw [h.cellAt j (by omega)]
  exact hj

theorem Rd.fl {w : World} {g : Nat} {xs : List Nat} (h : Rd w g (fl xs)) (k : Nat) (hk : k < xs.length) : w.cell? ⟨g, k, none⟩ = some (.float .f64 (xs.getD k 0)) :=
  h.2 k _ (fl_get xs k hk)

/-! ### The cloners -/
theorem cloneF (x : Addr) (len cap : Nat) (xs : List Nat) (w : World) (hl : len ≤ 131072) (h : InF w x len xs) :
    Calls Uagg.prog 12 #[.slice (some x) len cap] w fun e w' =>
      e = .returned (.slice (some ⟨w.heap.size, 0, none⟩) len len) ∧ Rd w' w.heap.size (fl xs) ∧ Below w.heap.size w w' :=
  (clone_full x len cap xs w hl h).mono fun _ _ ⟨h1, h2, h3⟩ => ⟨h1, Rd.of_own h2, h3⟩

theorem cloneF0 (a : Option Addr) (cap : Nat) (w : World) :
    Calls Uagg.prog 12 #[.slice a 0 cap] w fun e w' => ∃ a', e = .returned (.slice a' 0 0) ∧ Below w.heap.size w w' := by
  cases a with
  | none =>
    have q22 := eql22
    go_enter Uagg.func12, Uagg.ntmps12
    go_wp2
    go_ret
    exact ⟨_, rfl, Below.refl _ _⟩
  | some x => exact (clone_zero x cap w).mono fun _ _ ⟨h1, _, h3⟩ => ⟨_, h1, h3⟩

/-! ### zzSameF, zzEqF -/
theorem same_refl (f : Nat) (w : World) : Calls Uagg.prog 15 #[.float .f64 f, .float .f64 f] w fun e w' => e = .returned (.bool true) ∧ w' = w := by
  by_cases h : (FloatKind.f64.format.order f f == some .eq) = true
  · go_enter Uagg.func15, Uagg.ntmps15
    go_wp2
    go_ret
    exact ⟨rfl, rfl⟩
  · have h1 : (FloatKind.f64.format.order f f == some .eq) = false := by simpa using h
    have h2 : (FloatKind.f64.format.order f f != some .eq) = true := by simp [bne, h1]
    clear h
    go_enter Uagg.func15, Uagg.ntmps15
    go_wp2
    go_ret
    exact ⟨rfl, rfl⟩

end Go.Proofs.Youagw.Rd
