/-
  PLAIN MATHEMATICS (no Go in sight): comparing, and comparing times a power of ten.
-/
namespace Go.Proofs.Qxb6003404aDoor

/-- -1, 0 or 1 as a is less than, equal to or greater than b. -/
def cmp3 (a b : Int) : Int := if a < b then -1 else if b < a then 1 else 0

theorem cmp3_lt {a b : Int} (h : a < b) : cmp3 a b = -1 := by unfold cmp3; rw [if_pos h]
theorem cmp3_gt {a b : Int} (h : b < a) : cmp3 a b = 1 := by unfold cmp3; rw [if_neg (by omega), if_pos h]
theorem cmp3_eq {a b : Int} (h : a = b) : cmp3 a b = 0 := by unfold cmp3; rw [if_neg (by omega), if_neg (by omega)]
theorem cmp3_bd (a b : Int) : -1 ≤ cmp3 a b ∧ cmp3 a b ≤ 1 := by unfold cmp3; split <;> (try split) <;> omega

/-- One scale: the model's answer is the plain comparison. -/
theorem same_scale_pos (a b : Int) (ha : 0 < a) (hb : 0 < b) : cmp3 (a.natAbs : Int) (b.natAbs : Int) = cmp3 a b := by
  have e1 : (a.natAbs : Int) = a := by omega
  have e2 : (b.natAbs : Int) = b := by omega
  rw [e1, e2]
theorem same_scale_neg (a b : Int) (ha : a < 0) (hb : b < 0) : -cmp3 (a.natAbs : Int) (b.natAbs : Int) = cmp3 a b := by
  have e1 : (a.natAbs : Int) = -a := by omega
  have e2 : (b.natAbs : Int) = -b := by omega
  rw [e1, e2]
  unfold cmp3
  split <;> split <;> (try split) <;> (try split) <;> omega

theorem pow_pos' (k : Nat) : 0 < 10 ^ k := Nat.pow_pos (by omega)

/-- The loop's way out: already too large. -/
theorem times_out {x y j k : Nat} (hj : j < k) (h : y / 10 < x * 10 ^ j) : cmp3 ((x * 10 ^ k : Nat) : Int) (y : Int) = 1 := by
  refine cmp3_gt ?_
  have h1 : y < x * 10 ^ j * 10 := by omega
  have h2 : x * 10 ^ (j + 1) ≤ x * 10 ^ k := Nat.mul_le_mul_left _ (Nat.pow_le_pow_right (by omega) hj)
  rw [Nat.pow_succ, ← Nat.mul_assoc] at h2
  omega
theorem times_step {x y j : Nat} (hy : y < 18446744073709551616) (h : x * 10 ^ j ≤ y / 10) : x * 10 ^ j * 10 = x * 10 ^ (j + 1) ∧ x * 10 ^ (j + 1) < 18446744073709551616 := by
  rw [Nat.pow_succ, ← Nat.mul_assoc]
  omega

theorem scaled_big {x y k : Nat} (hx : 1 ≤ x) (hy : y < 18446744073709551616) (hk : 20 ≤ k) : cmp3 ((x * 10 ^ k : Nat) : Int) (y : Int) = 1 := by
  refine cmp3_gt ?_
  have h1 : 10 ^ 20 ≤ 10 ^ k := Nat.pow_le_pow_right (by omega) hk
  have h2 : 1 * 10 ^ k ≤ x * 10 ^ k := Nat.mul_le_mul_right _ hx
  have h3 : (10 : Nat) ^ 20 = 100000000000000000000 := by decide
  omega
end Go.Proofs.Qxb6003404aDoor
