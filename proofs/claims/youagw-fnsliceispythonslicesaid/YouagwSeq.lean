/-
  PLAIN: the progression that a slice walks, and what it picks.
-/
namespace Go.Proofs.Youagw.Seq

/-- The j-th term of the progression a, a + st, a + 2 st, .. -/
def trm (a st : Int) : Nat → Int
  | 0 => a
  | j + 1 => trm a st j + st

theorem trm_succ (a st : Int) (j : Nat) : trm a st (j + 1) = trm a st j + st := rfl

/-- What is picked of xs at the first cnt terms. -/
def picked (xs : List Nat) (a st : Int) (cnt : Nat) : List Nat := (List.range cnt).map fun t => xs.getD (trm a st t).toNat 0
theorem picked_zero (xs : List Nat) (a st : Int) : picked xs a st 0 = [] := rfl
theorem picked_length (xs : List Nat) (a st : Int) (cnt : Nat) : (picked xs a st cnt).length = cnt := by simp [picked]
theorem picked_succ (xs : List Nat) (a st : Int) (j : Nat) : picked xs a st (j + 1) = picked xs a st j ++ [xs.getD (trm a st j).toNat 0] := by
  simp [picked, List.range_succ]
theorem picked_get (xs : List Nat) (a st : Int) (cnt t : Nat) (h : t < cnt) : (picked xs a st cnt).getD t 0 = xs.getD (trm a st t).toNat 0 := by
  simp [picked, List.getElem?_map, List.getElem?_range h]

/-! ### Upward -/
theorem up_le (a st : Int) (h : 0 < st) : ∀ j : Nat, a + j ≤ trm a st j
  | 0 => by simp [trm]
  | j + 1 => by have := up_le a st h j; rw [trm_succ]; omega
theorem up_lt (a st : Int) (h : 0 < st) (i : Nat) : ∀ d : Nat, trm a st i < trm a st (i + d + 1)
  | 0 => by show _ < trm a st i + st; omega
  | d + 1 => by have := up_lt a st h i d; rw [show i + (d + 1) + 1 = (i + d + 1) + 1 from rfl, trm_succ]; omega
theorem up_mono (a st : Int) (h : 0 < st) {i j : Nat} (hij : i < j) : trm a st i < trm a st j := by
  obtain ⟨d, rfl⟩ : ∃ d, j = i + d + 1 := ⟨j - i - 1, by omega⟩
  exact up_lt a st h i d
theorem up_mono_le (a st : Int) (h : 0 < st) {i j : Nat} (hij : i ≤ j) : trm a st i ≤ trm a st j := by
  by_cases e : i = j
  · subst e; exact Int.le_refl _
  · exact Int.le_of_lt (up_mono a st h (by omega))

/-! ### Downward -/
theorem dn_le (a st : Int) (h : st < 0) : ∀ j : Nat, trm a st j ≤ a - j
  | 0 => by simp [trm]
  | j + 1 => by have := dn_le a st h j; rw [trm_succ]; omega
theorem dn_lt (a st : Int) (h : st < 0) (i : Nat) : ∀ d : Nat, trm a st (i + d + 1) < trm a st i
  | 0 => by show trm a st i + st < _; omega
  | d + 1 => by have := dn_lt a st h i d; rw [show i + (d + 1) + 1 = (i + d + 1) + 1 from rfl, trm_succ]; omega
theorem dn_mono (a st : Int) (h : st < 0) {i j : Nat} (hij : i < j) : trm a st j < trm a st i := by
  obtain ⟨d, rfl⟩ : ∃ d, j = i + d + 1 := ⟨j - i - 1, by omega⟩
  exact dn_lt a st h i d
theorem dn_mono_le (a st : Int) (h : st < 0) {i j : Nat} (hij : i ≤ j) : trm a st j ≤ trm a st i := by
  by_cases e : i = j
  · subst e; exact Int.le_refl _
  · exact Int.le_of_lt (dn_mono a st h (by omega))

theorem trm_eq (a st : Int) : ∀ j : Nat, trm a st j = a + j * st
  | 0 => by simp [trm]
  | j + 1 => by rw [trm_succ, trm_eq a st j, Int.natCast_add, Int.add_mul]; omega

end Go.Proofs.Youagw.Seq
