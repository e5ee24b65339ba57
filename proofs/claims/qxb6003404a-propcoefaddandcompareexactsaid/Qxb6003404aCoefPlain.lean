/-
  PLAIN MATHEMATICS (no Go in sight): a sign and an absolute value.
-/
import Derived.Test.Qxb6003404aCmpPlain
namespace Go.Proofs.Qxb6003404a

/-- The sign: zero has none. -/
def sg (neg : Bool) (v : Nat) : Int := if v = 0 then 0 else if neg then -1 else 1
/-- The number. -/
def sv (neg : Bool) (v : Nat) : Int := if neg then -(v : Int) else (v : Int)

theorem sg_zero (neg : Bool) : sg neg 0 = 0 := rfl
theorem sg_true {v : Nat} (h : v ≠ 0) : sg true v = -1 := by simp [sg, h]
theorem sg_false {v : Nat} (h : v ≠ 0) : sg false v = 1 := by simp [sg, h]

theorem cmp3_lt' {a b : Int} : cmp3 a b = -1 ↔ a < b := by unfold cmp3; split <;> (try split) <;> omega

/-- Where the signs differ they decide. -/
theorem scmp_sign (xn yn : Bool) (x y : Nat) (h : sg xn x ≠ sg yn y) : cmp3 (sv xn x) (sv yn y) = cmp3 (sg xn x) (sg yn y) := by
  by_cases hx : x = 0 <;> by_cases hy : y = 0 <;> cases xn <;> cases yn <;> simp [sg, sv, hx, hy] at h ⊢ <;> (unfold cmp3; split <;> (try split) <;> (try split) <;> (try split) <;> omega)

/-- Where the signs are one. -/
theorem scmp_same (xn yn : Bool) (x y : Nat) (h : sg xn x = sg yn y) : cmp3 (sv xn x) (sv yn y) = if xn then cmp3 (y : Int) (x : Int) else cmp3 (x : Int) (y : Int) := by
  by_cases hx : x = 0 <;> by_cases hy : y = 0 <;> cases xn <;> cases yn <;> simp [sg, sv, hx, hy] at h ⊢ <;> (unfold cmp3; (try split) <;> (try split) <;> (try split) <;> (try split) <;> omega)
end Go.Proofs.Qxb6003404a
