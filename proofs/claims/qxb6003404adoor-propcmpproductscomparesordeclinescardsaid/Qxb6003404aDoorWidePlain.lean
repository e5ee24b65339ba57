/-
  PLAIN MATHEMATICS (no Go in sight): numbers of two words, scaled by powers of ten and compared.
-/
import Derived.Test.Qxb6003404aDoorCmpPlain
namespace Go.Proofs.Qxb6003404aDoor

/-- The two words of V. -/
def Is128 (V hi lo : Nat) : Prop := hi < 18446744073709551616 ∧ lo < 18446744073709551616 ∧ hi * 18446744073709551616 + lo = V

theorem Is128.lt {V hi lo : Nat} (h : Is128 V hi lo) : V < 340282366920938463463374607431768211456 := by
  obtain ⟨h1, h2, h3⟩ := h
  omega

/-- The high words decide. -/
theorem cmp_hi {U V a b c d : Nat} (hu : Is128 U a b) (hv : Is128 V c d) (h : a ≠ c) : cmp3 (a : Int) (c : Int) = cmp3 (U : Int) (V : Int) ∧ cmp3 (a : Int) (c : Int) ≠ 0 := by
  obtain ⟨u1, u2, u3⟩ := hu
  obtain ⟨v1, v2, v3⟩ := hv
  by_cases c1 : a < c
  · rw [cmp3_lt (by omega), cmp3_lt (by omega)]
    exact ⟨rfl, by decide⟩
  · rw [cmp3_gt (by omega), cmp3_gt (by omega)]
    exact ⟨rfl, by decide⟩
/-- The high words are one: the low words decide. -/
theorem cmp_lo {U V a b d : Nat} (hu : Is128 U a b) (hv : Is128 V a d) : cmp3 (b : Int) (d : Int) = cmp3 (U : Int) (V : Int) := by
  obtain ⟨u1, u2, u3⟩ := hu
  obtain ⟨v1, v2, v3⟩ := hv
  rcases Nat.lt_trichotomy b d with h | h | h
  · rw [cmp3_lt (by omega), cmp3_lt (by omega)]
  · rw [cmp3_eq (by omega), cmp3_eq (by omega)]
  · rw [cmp3_gt (by omega), cmp3_gt (by omega)]

theorem scaled_lin {A D over mid carry lo2 s c W : Nat} (h1 : carry * 18446744073709551616 + lo2 = A) (h2 : over * 18446744073709551616 + mid = D) (h3 : s + c * 18446744073709551616 = mid + carry) (hW : W = D * 18446744073709551616 + A) :
    W = (over + c) * 340282366920938463463374607431768211456 + s * 18446744073709551616 + lo2 := by
  exact Nat.le_antisymm (by omega) (by omega)

/-- scaled's word-wise product, in one. -/
theorem scaled_eq {V hi lo p over mid carry lo2 s c : Nat} (hV : Is128 V hi lo) (h1 : carry * 18446744073709551616 + lo2 = lo * p) (h2 : over * 18446744073709551616 + mid = hi * p) (h3 : s + c * 18446744073709551616 = mid + carry) :
    V * p = (over + c) * 340282366920938463463374607431768211456 + s * 18446744073709551616 + lo2 := by
  obtain ⟨_, _, h⟩ := hV
  refine scaled_lin h1 h2 h3 ?_
  rw [← h, Nat.add_mul, Nat.mul_right_comm]

theorem scaled_fits {V hi lo p over mid carry lo2 s c : Nat} (hV : Is128 V hi lo) (h1 : carry * 18446744073709551616 + lo2 = lo * p) (h2 : over * 18446744073709551616 + mid = hi * p) (h3 : s + c * 18446744073709551616 = mid + carry) (hs : s < 18446744073709551616) (hl : lo2 < 18446744073709551616)
    (hf : V * p < 340282366920938463463374607431768211456) : over = 0 ∧ c = 0 ∧ Is128 (V * p) s lo2 := by
  have e := scaled_eq hV h1 h2 h3
  rw [e] at hf
  have : over + c = 0 := by omega
  refine ⟨by omega, by omega, hs, hl, ?_⟩
  rw [e, this, Nat.zero_mul, Nat.zero_add]

theorem scaled_over {V hi lo p over mid carry lo2 s c : Nat} (hV : Is128 V hi lo) (h1 : carry * 18446744073709551616 + lo2 = lo * p) (h2 : over * 18446744073709551616 + mid = hi * p) (h3 : s + c * 18446744073709551616 = mid + carry) (hs : s < 18446744073709551616) (hl : lo2 < 18446744073709551616)
    (hf : 340282366920938463463374607431768211456 ≤ V * p) : over ≠ 0 ∨ c ≠ 0 := by
  have e := scaled_eq hV h1 h2 h3
  rw [e] at hf
  omega

/-- One round of zzScale128. -/
theorem step_fits {V hi lo h1 l1 h2 l2 : Nat} (hV : Is128 V hi lo) (e1 : h1 * 18446744073709551616 + l1 = lo * 10) (e2 : h2 * 18446744073709551616 + l2 = hi * 10) (b1 : l1 < 18446744073709551616) (b2 : l2 < 18446744073709551616)
    (hf : V * 10 < 340282366920938463463374607431768211456) : h2 = 0 ∧ l2 + h1 < 18446744073709551616 ∧ Is128 (V * 10) (l2 + h1) l1 := by
  obtain ⟨v1, v2, v3⟩ := hV
  refine ⟨by omega, by omega, by omega, b1, Nat.le_antisymm (by omega) (by omega)⟩
theorem step_over {V hi lo h1 l1 h2 l2 : Nat} (hV : Is128 V hi lo) (e1 : h1 * 18446744073709551616 + l1 = lo * 10) (e2 : h2 * 18446744073709551616 + l2 = hi * 10) (b1 : l1 < 18446744073709551616)
    (hf : 340282366920938463463374607431768211456 ≤ V * 10) : h2 ≠ 0 ∨ 18446744073709551616 ≤ l2 + h1 ∧ h1 < 18446744073709551616 := by
  obtain ⟨v1, v2, v3⟩ := hV
  omega

theorem pow_mono {V j K : Nat} (h : j < K) : V * 10 ^ j * 10 ≤ V * 10 ^ K := by
  have h2 : V * 10 ^ (j + 1) ≤ V * 10 ^ K := Nat.mul_le_mul_left _ (Nat.pow_le_pow_right (by omega) h)
  rw [Nat.pow_succ, ← Nat.mul_assoc] at h2
  exact h2
end Go.Proofs.Qxb6003404aDoor
