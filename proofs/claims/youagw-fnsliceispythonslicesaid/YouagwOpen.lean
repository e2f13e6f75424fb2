/-
  A []float64 THAT CAME IN, OPENED: its elements' bits, each in its cell (after the kit's 'open_ints'; by 'open_slice1' and the reading of a float).
-/
import Derived.Test.YouagwRows
import Derived.Test.YouagwClone
import Derived.WalkKit
import Derived.ProofKit
import Derived.OpenShut
import Derived.ChangeOld
import Derived.Below
import Derived.Deep.Slices
import Derived.Laws.Cover2
namespace Go.Proofs.Youagw.Open
open Go.ChangeShapes Go.WideShapes Go.ChangeAt Go.RowKit Go.Deep
open Go.Proofs.Youagw.Clone

def bitsOf : Value → Nat | .float _ b => b | _ => 0

theorem trod_float {H : Type} {enc : TypeId × Value → H} {P : Program} {w : World} {base : Nat} {spare : Nat → Bool} {held : Bool} {t : TypeId} {k : FloatKind} {n : Nat} {v : Value} {y : DataW H × List MemPlace}
    (ht : P.underlying t = some (.float k)) (h : DataW.trod enc P w base spare held n t [v] = some y) : v = .float k (bitsOf v) := by
  cases n with
  | zero => simp [DataW.trod] at h
  | succ n =>
    simp only [DataW.trod, ht] at h
    cases v <;> simp_all [bitsOf]

theorem open_floats {H : Type} {enc : TypeId × Value → H} {P : Program} {w : World} {base : Nat} {spare : Nat → Bool} {held : Bool} {t e : TypeId} {k : FloatKind} {fuel : Nat} {a : Option Addr} {len cap : Nat} {y : DataW H × List MemPlace}
    (ht : P.underlying t = some (.slice e)) (he : P.underlying e = some (.float k)) (hc : P.cellsOf e = 1) (h : DataW.trod enc P w base spare held fuel t [.slice a len cap] = some y) :
    (a = none ∧ len = 0 ∧ cap = 0) ∨ ∃ (ad : Addr) (xs : List Nat), a = some ad ∧ len ≤ maxLen ∧ xs.length = len ∧ ∀ i, i < len → w.cell? (ad.add i) = some (.float k (xs.getD i 0)) := by
  rcases open_slice1 ht hc h with ⟨h0, -⟩ | ⟨ad, l, c, m, n, V, D, Pl, h0, -, hl, hm, hmm, -, hx⟩
  · simp at h0
    exact Or.inl h0
  · simp at h0
    obtain ⟨rfl, rfl, rfl⟩ := h0
    refine Or.inr ⟨ad, (List.range len).map fun i => bitsOf (V i), rfl, Nat.le_trans hl hm, by simp, fun i hi => ?_⟩
    have hi' : i < m := by rw [hmm]; split <;> omega
    obtain ⟨h1, h2⟩ := hx i hi'
    rw [h1, trod_float he h2]
    simp [hi, bitsOf]

end Go.Proofs.Youagw.Open
