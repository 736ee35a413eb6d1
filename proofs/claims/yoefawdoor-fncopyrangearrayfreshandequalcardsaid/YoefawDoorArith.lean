/-
  THE PLAIN ARITHMETIC OF A RANGE: how many numbers it holds ('rangeLen'), which is the k-th ('rangeAt'). No Go text in it.
-/
namespace Go.Proofs.YoefawDoor

/-- How far apart the two ends lie. -/
def dist (a0 a1 : Int) : Int := if a0 ≤ a1 then a1 - a0 else a0 - a1
/-- How many numbers: the distance divided by the step, rounded up. -/
def rangeLen (a0 a1 a2 : Int) : Nat := ((dist a0 a1 + a2 - 1) / a2).toNat
/-- The k-th number. -/
def rangeAt (a0 a1 a2 : Int) (k : Nat) : Int := if a0 ≤ a1 then a0 + k * a2 else a0 - k * a2

theorem dist_up {a0 a1 : Int} (h : a0 ≤ a1) : dist a0 a1 = a1 - a0 := if_pos h
theorem dist_down {a0 a1 : Int} (h : ¬ a0 ≤ a1) : dist a0 a1 = a0 - a1 := if_neg h
theorem dist_nonneg (a0 a1 : Int) : 0 ≤ dist a0 a1 := by unfold dist; split <;> omega
theorem dist_neg (a0 a1 : Int) : dist (-a0) (-a1) = dist a0 a1 := by unfold dist; split <;> split <;> omega

theorem mul_lt_iff (d a2 : Int) (h : 1 ≤ a2) (k : Nat) : (k : Int) * a2 < d ↔ k < ((d + a2 - 1) / a2).toNat := by
  have e : (k : Int) + 1 ≤ (d + a2 - 1) / a2 ↔ ((k : Int) + 1) * a2 ≤ d + a2 - 1 := Int.le_ediv_iff_mul_le (by omega)
  rw [Int.add_mul, Int.one_mul] at e
  omega

theorem len_iff (a0 a1 a2 : Int) (h : 1 ≤ a2) (k : Nat) : (k : Int) * a2 < dist a0 a1 ↔ k < rangeLen a0 a1 a2 := mul_lt_iff _ _ h k

theorem mul_nonneg' (k : Nat) (a2 : Int) (h : 1 ≤ a2) : 0 ≤ (k : Int) * a2 := Int.mul_nonneg (by omega) (by omega)

theorem len_neg (a0 a1 a2 : Int) : rangeLen (-a0) (-a1) a2 = rangeLen a0 a1 a2 := by unfold rangeLen; rw [dist_neg]

theorem len_int (a0 a1 a2 : Int) (h : 1 ≤ a2) : (rangeLen a0 a1 a2 : Int) = (dist a0 a1 + a2 - 1) / a2 := by
  have : 0 ≤ (dist a0 a1 + a2 - 1) / a2 := Int.ediv_nonneg (by have := dist_nonneg a0 a1; omega) (by omega)
  unfold rangeLen
  omega

/-- The mirror: negated ends give the negated numbers. -/
theorem at_neg (a0 a1 a2 : Int) (h : 1 ≤ a2) (k : Nat) (hk : k < rangeLen a0 a1 a2) : rangeAt a0 a1 a2 k + rangeAt (-a0) (-a1) a2 k = 0 := by
  have h1 := (len_iff a0 a1 a2 h k).2 hk
  have h2 := mul_nonneg' k a2 h
  unfold dist at h1
  unfold rangeAt
  split <;> split <;> simp only [*, if_true, if_false] at h1 <;> omega

theorem at_bounds (a0 a1 a2 : Int) (h : 1 ≤ a2) (k : Nat) (hk : k < rangeLen a0 a1 a2) (h0 : -1152921504606846976 ≤ a0) (h0' : a0 ≤ 1152921504606846976) (h1 : -1152921504606846976 ≤ a1) (h1' : a1 ≤ 1152921504606846976) :
    -1152921504606846976 ≤ rangeAt a0 a1 a2 k ∧ rangeAt a0 a1 a2 k ≤ 1152921504606846976 := by
  have h3 := (len_iff a0 a1 a2 h k).2 hk
  have h2 := mul_nonneg' k a2 h
  unfold dist at h3
  unfold rangeAt
  split <;> simp only [*, if_true, if_false] at h3 <;> omega

end Go.Proofs.YoefawDoor
