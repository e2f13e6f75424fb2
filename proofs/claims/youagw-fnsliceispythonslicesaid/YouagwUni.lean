/-
  CONTRACTS IN ONE FORM FOR EVERY LENGTH: a slice of n elements of which, where n is not 0, the row is known ('Sl'). The cloner, zzEqF, ZZsliceFloats at [::-1] and at [:].
-/
import Derived.Test.YouagwFloats
import Derived.Test.YouagwEq
namespace Go.Proofs.Youagw.Rd
open Go.RowKit
open Go.Proofs.Youagw.Plain Go.Proofs.Youagw.Params Go.Proofs.Youagw.Seq
open Go.Proofs.Youagw.Lists Go.Proofs.Youagw.Clone Go.Proofs.Youagw.Asserts

/-- Where n is not 0 the slice begins at the head of a row that holds the floats xs. -/
def Sl (w : World) (a : Option Addr) (n : Nat) (xs : List Nat) : Prop := 0 < n → ∃ g, a = some ⟨g, 0, none⟩ ∧ Rd w g (fl xs)
theorem Sl.below {w w' : World} {a : Option Addr} {n : Nat} {xs : List Nat} (h : Sl w a n xs) (hb : Below w.heap.size w w') : Sl w' a n xs := fun hn => by
  obtain ⟨g, e, hr⟩ := h hn
  exact ⟨g, e, hr.belowAll hb⟩
theorem Sl.of {w : World} {g n : Nat} {xs : List Nat} (h : Rd w g (fl xs)) : Sl w (some ⟨g, 0, none⟩) n xs := fun _ => ⟨g, rfl, h⟩

/-- What is known of a []float64 that came in. -/
def Came (w : World) (a : Option Addr) (n c : Nat) (xs : List Nat) : Prop := (a = none ∧ n = 0 ∧ c = 0 ∧ xs = []) ∨ ∃ x, a = some x ∧ n ≤ maxLen ∧ InF w x n xs

theorem Came.length {w : World} {a : Option Addr} {n c : Nat} {xs : List Nat} (h : Came w a n c xs) : xs.length = n := by
  rcases h with ⟨_, rfl, _, rfl⟩ | ⟨_, _, _, h⟩
  · rfl
  · exact h.1
theorem Came.max {w : World} {a : Option Addr} {n c : Nat} {xs : List Nat} (h : Came w a n c xs) : n ≤ maxLen := by
  rcases h with ⟨_, rfl, _, rfl⟩ | ⟨_, _, h, _⟩
  · exact Nat.zero_le _
  · exact h

theorem cloneU (a : Option Addr) (n c : Nat) (xs : List Nat) (w : World) (hl : n ≤ 131072) (h : Came w a n c xs) :
    Calls Uagg.prog 12 #[.slice a n c] w fun e w' => ∃ a', e = .returned (.slice a' n n) ∧ Sl w' a' n xs ∧ Below w.heap.size w w' := by
  rcases h with ⟨rfl, rfl, rfl, rfl⟩ | ⟨x, rfl, _, h⟩
  · exact (cloneF0 none 0 w).mono fun e w' ⟨a', h1, h2⟩ => ⟨a', h1, fun h => by omega, h2⟩
  · exact (cloneF x n c xs w hl h).mono fun e w' ⟨h1, h2, h3⟩ => ⟨_, h1, Sl.of h2, h3⟩

theorem eqU (a a' : Option Addr) (n c c' : Nat) (xs : List Nat) (w : World) (hn : n ≤ 1048576) (hx : xs.length = n) (h : Sl w a n xs) (h' : Sl w a' n xs) :
    Calls Uagg.prog 17 #[.slice a n c, .slice a' n c'] w fun e w' => e = .returned (.bool true) ∧ Below w.heap.size w w' := by
  by_cases h0 : n = 0
  · subst h0
    exact (eq_zero a a' c c' w).mono fun e w' ⟨h1, h2⟩ => ⟨h1, h2 ▸ Below.refl _ _⟩
  · obtain ⟨g, rfl, hr⟩ := h (by omega)
    obtain ⟨g', rfl, hr'⟩ := h' (by omega)
    exact (eq_refl g g' n c c' xs w hn hx hr hr').mono fun e w' ⟨h1, m, h2⟩ => ⟨h1, h2 ▸ bel_drewN (Below.refl _ _) _⟩

theorem getD_get (l : List Nat) (j : Nat) (h : j < l.length) : l.getD j 0 = l[j] := by simp [h]

/-! ### [::-1] and [:] -/
theorem trm_rev (n : Int) : ∀ t : Nat, trm (n - 1) (-1) t = n - 1 - t
  | 0 => by simp [trm]
  | t + 1 => by rw [trm_succ, trm_rev n t]; omega
theorem trm_id : ∀ t : Nat, trm 0 1 t = t
  | 0 => rfl
  | t + 1 => by rw [trm_succ, trm_id t]; rfl

theorem stops_rev (n cnt : Nat) (hc : cnt ≤ n) (h : Stops (endI n 0 (-1) false true) (endI n 0 (-1) false false) (-1) cnt) : cnt = n := by
  have e1 : endI n 0 (-1) false true = (n : Int) - 1 := rfl
  have e2 : endI n 0 (-1) false false = -1 := rfl
  rw [e1, e2] at h
  have := (h.2 (by omega)).2
  rw [trm_rev] at this
  omega
theorem stops_id (n cnt : Nat) (hc : cnt ≤ n) (h : Stops (endI n 0 1 false true) (endI n 0 1 false false) 1 cnt) : cnt = n := by
  have e1 : endI n 0 1 false true = 0 := rfl
  have e2 : endI n 0 1 false false = (n : Int) := rfl
  rw [e1, e2] at h
  have := (h.1 (by omega)).2
  rw [trm_id] at this
  omega

theorem picked_rev (xs : List Nat) (n : Nat) (hx : xs.length = n) : picked xs (endI n 0 (-1) false true) (-1) n = xs.reverse := by
  have e1 : endI n 0 (-1) false true = (n : Int) - 1 := rfl
  rw [e1]
  apply List.ext_getElem
  · simp [picked_length, hx]
  · intro j h1 h2
    rw [picked_length] at h1
    have := picked_get xs ((n : Int) - 1) (-1) n j h1
    rw [trm_rev, show ((n : Int) - 1 - j).toNat = n - 1 - j by omega] at this
    rw [getD_get _ _ (by rw [picked_length]; exact h1), getD_get _ _ (by omega)] at this
    rw [this, List.getElem_reverse]
    congr 1
    omega
theorem picked_id (xs : List Nat) (n : Nat) (hx : xs.length = n) : picked xs (endI n 0 1 false true) 1 n = xs := by
  have e1 : endI n 0 1 false true = 0 := rfl
  rw [e1]
  apply List.ext_getElem
  · simp [picked_length, hx]
  · intro j h1 h2
    rw [picked_length] at h1
    have := picked_get xs 0 1 n j h1
    rw [trm_id, Int.toNat_natCast] at this
    rw [getD_get _ _ (by rw [picked_length]; exact h1), getD_get _ _ (by omega)] at this
    exact this

theorem rev_any (a : Option Addr) (n c : Nat) (xs : List Nat) (w : World) (hn : n ≤ 131072) (hx : xs.length = n) (h : Sl w a n xs) :
    Calls Uagg.prog 13 #[.slice a n c, .int .i64 0, .int .i64 0, .int .i64 (-1), .bool false, .bool false, .bool true] w fun e w' => ∃ g', e = .returned (.tuple #[.slice (some ⟨g', 0, none⟩) n n, .bool false]) ∧
      Rd w' g' (fl xs.reverse) ∧ Below w.heap.size w w' := by
  refine (floats_any a n c xs 0 0 (-1) (-1) false false true w hn hx h (by omega) (by omega) (by omega) (by omega) (.inr ⟨rfl, rfl, rfl⟩) (by omega) (by omega) (by omega)).mono ?_
  rintro e w' ⟨cnt, g', h1, h2, h3, h4, h5⟩
  obtain rfl := stops_rev n cnt h4 h5
  rw [picked_rev xs cnt hx] at h2
  exact ⟨g', h1, h2, h3⟩

theorem id_any (a : Option Addr) (n c : Nat) (xs : List Nat) (w : World) (hn : n ≤ 131072) (hx : xs.length = n) (h : Sl w a n xs) :
    Calls Uagg.prog 13 #[.slice a n c, .int .i64 0, .int .i64 0, .int .i64 0, .bool false, .bool false, .bool false] w fun e w' => ∃ g', e = .returned (.tuple #[.slice (some ⟨g', 0, none⟩) n n, .bool false]) ∧
      Rd w' g' (fl xs) ∧ Below w.heap.size w w' := by
  refine (floats_any a n c xs 0 0 0 1 false false false w hn hx h (by omega) (by omega) (by omega) (by omega) (.inl ⟨rfl, rfl⟩) (by omega) (by omega) (by omega)).mono ?_
  rintro e w' ⟨cnt, g', h1, h2, h3, h4, h5⟩
  obtain rfl := stops_id n cnt h4 h5
  rw [picked_id xs cnt hx] at h2
  exact ⟨g', h1, h2, h3⟩

end Go.Proofs.Youagw.Rd
