/-
  PLAIN: the membership model of a Python slice, walked along the indices, meets the terms of the progression one by one.
-/
import Derived.Test.YouagwSeq
namespace Go.Proofs.Youagw.Seq

/-- Walking up: the first k terms lie below i, the next (if there is one) does not. -/
def UpInv (S st : Int) (cnt : Nat) (i : Int) (k : Nat) : Prop := k ≤ cnt ∧ (∀ t, t < k → trm S st t < i) ∧ (k < cnt → i ≤ trm S st k)

theorem up_start (S st : Int) (cnt : Nat) (h : 0 ≤ S) : UpInv S st cnt 0 0 := ⟨Nat.zero_le _, fun t ht => by omega, fun _ => h⟩

theorem up_member {S E st : Int} {cnt : Nat} {i : Int} {k : Nat} (hpos : 0 < st) (h2 : E ≤ trm S st cnt) (h : UpInv S st cnt i k)
    (m1 : S ≤ i) (m2 : i < E) (m3 : (i - S) % st = 0) : k < cnt ∧ trm S st k = i ∧ UpInv S st cnt (i + 1) (k + 1) := by
  obtain ⟨hk, ha, hb⟩ := h
  have hdv : (i - S) = st * ((i - S) / st) := by have := Int.mul_ediv_add_emod (i - S) st; omega
  have hq : 0 ≤ (i - S) / st := Int.ediv_nonneg (by omega) (by omega)
  obtain ⟨m, hm⟩ : ∃ m : Nat, (i - S) / st = m := ⟨((i - S) / st).toNat, by omega⟩
  have hi : trm S st m = i := by rw [trm_eq, ← hm, Int.mul_comm]; omega
  have hmc : m < cnt := by
    refine Classical.byContradiction fun hno => ?_
    have := up_mono_le S st hpos (show cnt ≤ m by omega)
    omega
  have hkm : k ≤ m := by
    refine Classical.byContradiction fun hno => ?_
    have := ha m (by omega)
    omega
  have hk2 : k = m := by
    refine Classical.byContradiction fun hno => ?_
    have h3 := up_mono S st hpos (show k < m by omega)
    have h4 := hb (by omega)
    omega
  subst hk2
  refine ⟨hmc, hi, by omega, fun t ht => ?_, fun _ => ?_⟩
  · by_cases e : t = k
    · subst e; omega
    · have := ha t (by omega); omega
  · have := up_mono S st hpos (show k < k + 1 by omega)
    omega

theorem up_other {S E st : Int} {cnt : Nat} {i : Int} {k : Nat} (hpos : 0 < st) (h1 : ∀ t, t < cnt → trm S st t < E) (h : UpInv S st cnt i k)
    (hno : ¬ (S ≤ i ∧ i < E ∧ (i - S) % st = 0)) : UpInv S st cnt (i + 1) k := by
  obtain ⟨hk, ha, hb⟩ := h
  refine ⟨hk, fun t ht => by have := ha t ht; omega, fun hc => ?_⟩
  have h3 := hb hc
  refine Classical.byContradiction fun hlt => hno ?_
  have he : trm S st k = i := by omega
  have h5 := h1 k hc
  have h6 := up_le S st hpos k
  refine ⟨by omega, by omega, ?_⟩
  have e2 := trm_eq S st k
  have : i - S = (k : Int) * st := by omega
  rw [this]
  exact Int.mul_emod_left _ _

theorem up_end {S E st : Int} {cnt : Nat} {n : Int} {k : Nat} (h1 : ∀ t, t < cnt → trm S st t < E) (hE : E ≤ n) (h : UpInv S st cnt n k) : k = cnt := by
  obtain ⟨hk, _, hb⟩ := h
  refine Classical.byContradiction fun hne => ?_
  have := hb (by omega)
  have := h1 k (by omega)
  omega

/-- Walking down: the first k terms lie above i, the next (if there is one) does not. -/
def DnInv (S st : Int) (cnt : Nat) (i : Int) (k : Nat) : Prop := k ≤ cnt ∧ (∀ t, t < k → i < trm S st t) ∧ (k < cnt → trm S st k ≤ i)

theorem dn_start (S st n : Int) (cnt : Nat) (h : S ≤ n - 1) : DnInv S st cnt (n - 1) 0 := ⟨Nat.zero_le _, fun t ht => by omega, fun _ => h⟩

theorem dn_member {S E st : Int} {cnt : Nat} {i : Int} {k : Nat} (hneg : st < 0) (h2 : trm S st cnt ≤ E) (h : DnInv S st cnt i k)
    (m1 : i ≤ S) (m2 : E < i) (m3 : (S - i) % st = 0) : k < cnt ∧ trm S st k = i ∧ DnInv S st cnt (i - 1) (k + 1) := by
  obtain ⟨hk, ha, hb⟩ := h
  have hdv : (S - i) = st * ((S - i) / st) := by have := Int.mul_ediv_add_emod (S - i) st; omega
  have hq : (S - i) / st ≤ 0 := by
    refine Classical.byContradiction fun hno => ?_
    have := Int.mul_neg_of_neg_of_pos hneg (show 0 < (S - i) / st by omega)
    omega
  obtain ⟨m, hm⟩ : ∃ m : Nat, (S - i) / st = -(m : Int) := ⟨(-((S - i) / st)).toNat, by omega⟩
  have hi : trm S st m = i := by
    rw [hm, Int.mul_neg] at hdv
    rw [trm_eq, Int.mul_comm]; omega
  have hmc : m < cnt := by
    refine Classical.byContradiction fun hno => ?_
    have := dn_mono_le S st hneg (show cnt ≤ m by omega)
    omega
  have hkm : k ≤ m := by
    refine Classical.byContradiction fun hno => ?_
    have := ha m (by omega)
    omega
  have hk2 : k = m := by
    refine Classical.byContradiction fun hno => ?_
    have h3 := dn_mono S st hneg (show k < m by omega)
    have h4 := hb (by omega)
    omega
  subst hk2
  refine ⟨hmc, hi, by omega, fun t ht => ?_, fun _ => ?_⟩
  · by_cases e : t = k
    · subst e; omega
    · have := ha t (by omega); omega
  · have := dn_mono S st hneg (show k < k + 1 by omega)
    omega

theorem dn_other {S E st : Int} {cnt : Nat} {i : Int} {k : Nat} (hneg : st < 0) (h1 : ∀ t, t < cnt → E < trm S st t) (h : DnInv S st cnt i k)
    (hno : ¬ (i ≤ S ∧ E < i ∧ (S - i) % st = 0)) : DnInv S st cnt (i - 1) k := by
  obtain ⟨hk, ha, hb⟩ := h
  refine ⟨hk, fun t ht => by have := ha t ht; omega, fun hc => ?_⟩
  have h3 := hb hc
  refine Classical.byContradiction fun hlt => hno ?_
  have he : trm S st k = i := by omega
  have h5 := h1 k hc
  have h6 := dn_le S st hneg k
  refine ⟨by omega, by omega, ?_⟩
  have e2 := trm_eq S st k
  have : S - i = (-(k : Int)) * st := by rw [Int.neg_mul]; omega
  rw [this]
  exact Int.mul_emod_left _ _

theorem dn_end {S E st : Int} {cnt : Nat} {k : Nat} (h1 : ∀ t, t < cnt → E < trm S st t) (hE : -1 ≤ E) (h : DnInv S st cnt (-1) k) : k = cnt := by
  obtain ⟨hk, _, hb⟩ := h
  refine Classical.byContradiction fun hne => ?_
  have := hb (by omega)
  have := h1 k (by omega)
  omega

end Go.Proofs.Youagw.Seq
