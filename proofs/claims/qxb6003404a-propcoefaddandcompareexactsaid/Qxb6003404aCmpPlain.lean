/-
  PLAIN MATHEMATICS (no Go in sight): comparing.
-/
namespace Go.Proofs.Qxb6003404a

/-- -1, 0 or 1 as a is less than, equal to or greater than b. -/
def cmp3 (a b : Int) : Int := if a < b then -1 else if b < a then 1 else 0

theorem cmp3_lt {a b : Int} (h : a < b) : cmp3 a b = -1 := by unfold cmp3; rw [if_pos h]
theorem cmp3_gt {a b : Int} (h : b < a) : cmp3 a b = 1 := by unfold cmp3; rw [if_neg (by omega), if_pos h]
theorem cmp3_eq {a b : Int} (h : a = b) : cmp3 a b = 0 := by unfold cmp3; rw [if_neg (by omega), if_neg (by omega)]
theorem cmp3_bd (a b : Int) : -1 ≤ cmp3 a b ∧ cmp3 a b ≤ 1 := by unfold cmp3; split <;> (try split) <;> omega
theorem cmp3_swap (a b : Int) : cmp3 b a = -cmp3 a b := by unfold cmp3; split <;> split <;> (try split) <;> omega
end Go.Proofs.Qxb6003404a
