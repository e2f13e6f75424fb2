/-
  A PROOF OF 'Rows.FnToArrayNumExactSaid'. The frame is after the guide's shell for a law over slices, turned to a []float64 and a []int8.
-/
import Derived.Test.YouagwRows
import Derived.Test.YouagwOpen
import Derived.Test.YouagwWalk9m
import Derived.WalkKit
import Derived.ProofKit
import Derived.OpenShut
import Derived.ShutString
import Derived.ChangeOld
import Derived.Below
import Derived.Laws.Cover2
namespace Go.Proofs.Youagw.fnToArrayNumExact
open Go.ChangeShapes Go.WideShapes Go.ChangeAt Go.RowKit
open Go.Proofs.Youagw.Clone Go.Proofs.Youagw.Open Go.Proofs.Youagw.Rd
set_option linter.unusedVariables false

theorem own : ownKnob Uagg.prog.godebug = none := by kernel_rfl
theorem laidOut : laidOutB Uagg.prog = true := by kernel_rfl

/-- All ways together: what is known of the two slices that came in. -/
theorem walk (a a' : Option Addr) (l l' c c' : Nat) (w : World)
    (h : (a = none ∧ l = 0 ∧ c = 0) ∨ ∃ (ad : Addr) (xs : List Nat), a = some ad ∧ l ≤ maxLen ∧ xs.length = l ∧ ∀ i, i < l → w.cell? (ad.add i) = some (.float .f64 (xs.getD i 0)))
    (h' : (a' = none ∧ l' = 0 ∧ c' = 0) ∨ ∃ (ad : Addr) (zs : List Int), a' = some ad ∧ l' ≤ maxLen ∧ zs.length = l' ∧ ∀ i, i < l' → w.cell? (ad.add i) = some (.int .i8 (zs.getD i 0))) :
    Calls Uagg.prog 9 #[.slice a l c, .slice a' l' c'] w fun e w' => e = .returned (.bool true) ∧ Below w.heap.size w w' := by
  have hm : l ≤ maxLen := by rcases h with ⟨_, rfl, _⟩ | ⟨_, _, _, hm, _⟩ <;> first | exact hm | exact Nat.zero_le _
  have hm' : l' ≤ maxLen := by rcases h' with ⟨_, rfl, _⟩ | ⟨_, _, _, hm, _⟩ <;> first | exact hm | exact Nat.zero_le _
  by_cases he : 131072 < l ∨ 1048576 < l' ∨ 1048576 < l * 8 + l' ∨ l ≠ l'
  · exact (early9 a a' l l' c c' w hm hm' he).mono fun e w' ⟨h1, h2⟩ => ⟨h1, h2 ▸ Below.refl _ _⟩
  · obtain rfl : l = l' := by omega
    by_cases h0 : l = 0
    · subst h0
      exact walk9_zero a a' c c' w
    · rcases h with ⟨_, hl0, _⟩ | ⟨ad, xs, rfl, _, hx, hc⟩
      · omega
      rcases h' with ⟨_, hl0, _⟩ | ⟨ad', zs, rfl, _, hz, hc'⟩
      · omega
      obtain ⟨b, off, spot⟩ := ad'
      have k0 := hc' 0 (by omega)
      have hspot : spot = none := by simpa [Addr.add] using World.cell?_spot k0
      subst hspot
      have hb : b < w.heap.size := by simpa [Addr.add] using World.block_lt_of_cell? w _ k0
      exact walk9_main ad b off l c c' xs zs w (by omega) ⟨hx, hc⟩ hz hb (fun j hj => by have := hc' j hj; rwa [addr_add] at this)

set_option maxRecDepth 100000 in
theorem lifted (os : Os) (started : os.Started) (H : Type) (enc : TypeId × Value → H) :
    ReturnsInHanded {} Uagg.checked os 9 .any (Rows.fnToArrayNumExactSpec.pre6 enc Uagg.prog Uagg.f9 Rows.fnToArrayNumExactRow.domain false) (Rows.fnToArrayNumExactSpec.post enc Uagg.prog Uagg.f9 false true false false) := by
  refine returnsInHanded_of_change (C := Uagg.checked) own started (by kernel_rfl) Uagg.func9
    (ChangeSpec.witness6 (enc := enc) (C := Uagg.checked) false ⟨#[], #[.slice none 0 0, .slice none 0 0], []⟩ 8 (by kernel_rfl) (by kernel_rfl) (by kernel_rfl) (by kernel_rfl)) ?_
  intro W base args ds gs before hval0 hW hcnd _
  have hval : ∀ (j : Nat) t v, Uagg.f9.params[j]? = some t → args[j]? = some v → Value.okWide Uagg.prog W .any base t v := hval0
  have hW' := hW
  obtain ⟨p, q, hA0, hV, rfl, hfz, hnd⟩ := hW
  have hA : DataW.TrodAll enc Uagg.prog W 0 (fun _ => true) true Uagg.f9.params.toList args.toList ds p := hA0
  rw [Uagg.params9] at hA hval
  obtain ⟨v0, vs0, d0, ds0, p0, q0, hargs, rfl, rfl, h0, r0⟩ := trodAll_cons hA
  obtain ⟨v1, vs1, d1, ds1, p1, q1, rfl, rfl, rfl, h1, r1⟩ := trodAll_cons r0
  obtain ⟨rfl, rfl, rfl⟩ := trodAll_nil r1
  obtain rfl : args = #[v0, v1] := by cases args; simp_all
  obtain ⟨rfl, rfl⟩ := trodVars_none hV
  obtain ⟨a0, len0, cap0, rfl⟩ := okWide_slice Uagg.underlying22 (hval 0 22 v0 rfl rfl)
  obtain ⟨a1, len1, cap1, rfl⟩ := okWide_slice Uagg.underlying37 (hval 1 37 v1 rfl rfl)
  have k0 := h0
  have k1 := h1
  have lt0 : ∀ x ∈ p0, x.block < W.heap.size := by obtain ⟨m, hm⟩ := k0; exact DataW.trod_lt m _ _ _ hm
  have lt1 : ∀ x ∈ p1, x.block < W.heap.size := by obtain ⟨m, hm⟩ := k1; exact DataW.trod_lt m _ _ _ hm
  have wlk : Calls Uagg.prog 9 #[.slice a0 len0 cap0, .slice a1 len1 cap1] W fun e w' => e = .returned (.bool true) ∧ Below W.heap.size W w' := by
    refine walk a0 a1 len0 len1 cap0 cap1 W ?_ ?_
    · obtain ⟨fuel, hf⟩ := h0
      exact open_floats Uagg.underlying22 Uagg.underlying29 (by kernel_rfl) (by simpa [Value.cells] using hf)
    · obtain ⟨fuel, hf⟩ := h1
      rcases open_ints Uagg.underlying37 Uagg.underlying41 (by kernel_rfl) hf with ⟨hcs, _⟩ | ⟨x, l, c, zs, hcs, _, hl, hm, hz, _, hcell, hwz⟩
      · simp [Value.cells] at hcs
        exact .inl hcs
      · simp [Value.cells] at hcs
        obtain ⟨rfl, rfl, rfl⟩ := hcs
        have hz' : zs.length = cap1 := by simpa using hz
        refine .inr ⟨x, zs.take len1, rfl, Nat.le_trans hl hm, by simp; omega, fun i hi => ?_⟩
        rw [hcell i (by omega)]
        simp [hi]
  clear hA0 hval0
  refine wlk.mono fun e W' ⟨he, bel⟩ => ?_
  subst he
  exact ⟨_, rfl, _, _, _, [], _, [], hW', trodAll_mk1 (shut_bool Uagg.underlying4 _), (trodAll_cons_mk (Below.trod laidOut (by kernel_rfl) (of_decide_eq_true (by kernel_rfl)) k0 bel lt0) (trodAll_cons_mk (Below.trod laidOut (by kernel_rfl) (of_decide_eq_true (by kernel_rfl)) k1 bel lt1) trodAll_mk0)), rfl, bel.frame _, fun h => by cases h⟩

theorem over : Rows.fnToArrayNumExactRow.holds Uagg.pinned (OpenSpec.ofChange Rows.fnToArrayNumExactSpec) :=
  OpenClaim.holds_of_wide 9 Uagg.f9 rfl rfl rfl rfl rfl rfl rfl ⟨rfl, rfl, rfl, rfl, rfl⟩ rfl rfl rfl rfl rfl (by kernel_rfl) Uagg.func9 (by kernel_rfl)
    (of_decide_eq_true (by kernel_rfl)) (by unfold Func.isWrapper; first | (rw [if_pos (by decide +kernel)]; kernel_rfl) | (rw [if_neg (by decide +kernel)]; exact ⟨rfl, rfl⟩))
    (fun os started H enc _ => lifted os started H enc)

/-- ████ THE STATEMENT ████ -/
theorem proved : Rows.FnToArrayNumExactSaid := over
#print axioms proved
end Go.Proofs.Youagw.fnToArrayNumExact
