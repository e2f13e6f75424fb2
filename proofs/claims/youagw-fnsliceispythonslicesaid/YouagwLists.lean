/-
  PLAIN LISTS AND OWNED ROWS: a row that 'make' has laid and that a loop fills from the left.
-/
import Derived.WalkKit
namespace Go.Proofs.Youagw.Lists
open Go.RowKit

/-- The first k cells are ys's, the rest hold z. -/
def fill (ys : List Value) (z : Value) (k : Nat) : List Value := ys.take k ++ List.replicate (ys.length - k) z

theorem fill_zero (ys : List Value) (z : Value) : fill ys z 0 = List.replicate ys.length z := by simp [fill]
theorem fill_all (ys : List Value) (z : Value) (k : Nat) (h : ys.length ≤ k) : fill ys z k = ys := by
  simp [fill, List.take_of_length_le h, Nat.sub_eq_zero_of_le h]
theorem fill_length (ys : List Value) (z : Value) (k : Nat) (h : k ≤ ys.length) : (fill ys z k).length = ys.length := by
  simp [fill]; omega
theorem fill_get (ys : List Value) (z : Value) (k : Nat) (h : k < ys.length) : (fill ys z k)[k]? = some z := by
  unfold fill
  rw [List.getElem?_append_right (by simp; omega)]
  simp [List.getElem?_replicate]
  omega
theorem fill_set (ys : List Value) (z u : Value) (k : Nat) (h : ys[k]? = some u) : (fill ys z k).set k u = fill ys z (k + 1) := by
  obtain ⟨hk, rfl⟩ := List.getElem?_eq_some_iff.1 h
  unfold fill
  rw [List.set_append_right _ _ (by simp; omega), List.take_succ_eq_append_getElem hk, List.append_assoc]
  congr 1
  have e1 : ys.length - k = (ys.length - (k + 1)) + 1 := by omega
  have e2 : k - (ys.take k).length = 0 := by simp; omega
  rw [e1, e2, List.replicate_succ]
  simp

/-- What the round's store needs, and what it leaves. -/
theorem fill_round {w wr : World} {B e g n cap : Nat} {ys : List Value} {z u : Value} {k : Nat} (hn : ys.length = n) (hg : B ≤ g) (hb : Below B w wr)
    (hown : wr.ownsRow B e 1 (.slice (some ⟨g, 0, none⟩) n cap) n (fill ys z k)) (h : ys[k]? = some u) :
    wr.cell? ⟨g, k, none⟩ = some z ∧ wr.frozen? ⟨g, k, none⟩ = false ∧
      (wr.setCell ⟨g, k, none⟩ u).ownsRow B e 1 (.slice (some ⟨g, 0, none⟩) n cap) n (fill ys z (k + 1)) ∧ Below B w (wr.setCell ⟨g, k, none⟩ u) := by
  obtain ⟨hk, -⟩ := List.getElem?_eq_some_iff.1 h
  refine ⟨?_, hown.frozenAt k, ?_, hb.setCell (p := ⟨g, k, none⟩) hg u⟩
  · rw [hown.cellAt k (by omega)]; exact fill_get ys z k hk
  · have := (hown.stored k u).1
    rwa [fill_set ys z u k h] at this

theorem made_fill {w' : World} {B e : Nat} {v : Value} {n : Nat} {z : Value} {ys : List Value} (hn : ys.length = n) (hz : z.cells = #[z])
    (h : w'.ownsRow B e 1 v n (madeCells z.cells (n * 1)).toList) : w'.ownsRow B e 1 v n (fill ys z 0) := by
  rw [hz] at h
  have e1 : (madeCells #[z] (n * 1)).toList = List.replicate n z := by simpa using toList_madeCells_one z n
  rw [e1] at h
  rw [fill_zero, hn]
  exact h

/-- Stores of a float, of an interface value, of the nil interface: as the kit's laws on integers. -/
theorem run_store_float {P : Program} {w : World} {a : Addr} {m : Mode} (k : FloatKind) (n : Nat) : (store a (.float k n) m).run P w = stored P w a (.float k n) m := run_store P w a _ m rfl
theorem run_store_iface {P : Program} {w : World} {a : Addr} {m : Mode} (t : TypeId) (v : Value) : (store a (.iface t v) m).run P w = stored P w a (.iface t v) m := run_store P w a _ m rfl
theorem run_store_nilIface {P : Program} {w : World} {a : Addr} {m : Mode} : (store a .nilIface m).run P w = stored P w a .nilIface m := run_store P w a _ m rfl

end Go.Proofs.Youagw.Lists
