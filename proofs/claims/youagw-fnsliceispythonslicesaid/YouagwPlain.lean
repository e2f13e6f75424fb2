/-
  THE PLAIN FUNCTIONS OF THE SEAT (no Go in sight): what capSlice, zzClamp, zzPyEnd and computeSliceParams reckon, over whole numbers, and the laws on them.
-/
namespace Go.Proofs.Youagw.Plain

/-- What 'capSlice(n, a, s)' answers. -/
def capI (n a s : Int) : Int :=
  if a < 0 then (if a + n < 0 then (if s < 0 then -1 else 0) else a + n)
  else if n ≤ a then (if s < 0 then n - 1 else n) else a

/-- What 'zzClamp(v, lo, hi)' answers. -/
def clampI (v lo hi : Int) : Int := if v < lo then lo else if hi < v then hi else v

/-- What 'zzPyEnd(n, v, has, neg, isStart)' answers. -/
def pyEnd (n v : Int) (has neg isStart : Bool) : Int :=
  if has then
    (if neg then clampI (if v < 0 then v + n else v) (-1) (n - 1) else clampI (if v < 0 then v + n else v) 0 n)
  else if isStart then (if neg then n - 1 else 0) else (if neg then -1 else n)

/-- The end that 'computeSliceParams' reckons. -/
def endI (n v st : Int) (has isStart : Bool) : Int :=
  if has then capI n v st else if isStart then (if st < 0 then n - 1 else 0) else (if st < 0 then -1 else n)

theorem capI_py (n a s : Int) (hn : 0 ≤ n) (b : Bool) : capI n a s = pyEnd n a true (decide (s < 0)) b := by
  unfold capI pyEnd clampI
  by_cases hs : s < 0 <;> by_cases ha : a < 0 <;> simp only [hs, ha, decide_true, decide_false, if_true, if_false, Bool.false_eq_true]
  all_goals (repeat' split)
  all_goals omega

theorem endI_py (n v st : Int) (hn : 0 ≤ n) (has b : Bool) : endI n v st has b = pyEnd n v has (decide (st < 0)) b := by
  cases has with
  | true => simp only [endI, if_true]; exact capI_py n v st hn b
  | false => unfold endI pyEnd; by_cases hs : st < 0 <;> simp [hs]

/-- The range of an end, by the sign of the step. -/
theorem capI_range (n a s : Int) (hn : 0 ≤ n) : (s < 0 → -1 ≤ capI n a s ∧ capI n a s ≤ n - 1) ∧ (0 ≤ s → 0 ≤ capI n a s ∧ capI n a s ≤ n) := by
  unfold capI
  constructor <;> intro hs <;> (repeat' split) <;> omega

theorem endI_range (n v st : Int) (has b : Bool) (hn : 0 ≤ n) : (st < 0 → -1 ≤ endI n v st has b ∧ endI n v st has b ≤ n - 1) ∧ (0 ≤ st → 0 ≤ endI n v st has b ∧ endI n v st has b ≤ n) := by
  have := capI_range n v st hn
  unfold endI
  constructor <;> intro hs <;> (repeat' split) <;> omega

theorem capI_in (n a s : Int) (h0 : 0 ≤ a) (h1 : a < n) : capI n a s = a := by
  unfold capI; rw [if_neg (by omega), if_neg (by omega)]

theorem capI_neg (n a s : Int) (h0 : a < 0) (h1 : -n ≤ a) : capI n a s = a + n := by
  unfold capI; rw [if_pos h0, if_neg (by omega)]

end Go.Proofs.Youagw.Plain
