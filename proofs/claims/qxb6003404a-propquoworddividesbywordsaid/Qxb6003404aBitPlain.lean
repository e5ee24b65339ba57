/-
  PLAIN MATHEMATICS (no Go in sight): a number's bit length, and its shift up until the top bit is set.
-/
import Derived.Lib.BitFns
namespace Go.Proofs.Qxb6003404a.Bit

theorem bitLenAux_spec : ∀ (f x : Nat), x < 2 ^ f → x < 2 ^ (Lib.bitLenAux f x) ∧ (x ≠ 0 → 2 ^ (Lib.bitLenAux f x - 1) ≤ x)
  | 0, x, h => by
    have : x = 0 := by simpa using h
    subst this
    simp [Lib.bitLenAux]
  | f + 1, x, h => by
    simp only [Lib.bitLenAux]
    split
    · rename_i h0
      subst h0
      simp
    · rename_i h0
      obtain ⟨h1, h2⟩ := bitLenAux_spec f (x / 2) (by rw [Nat.pow_succ] at h; omega)
      refine ⟨?_, fun _ => ?_⟩
      · rw [Nat.add_comm, Nat.pow_succ]
        omega
      · by_cases h3 : x / 2 = 0
        · rw [h3] at h1 ⊢
          have : Lib.bitLenAux f 0 = 0 := by cases f <;> simp [Lib.bitLenAux]
          rw [this]
          simp
          omega
        · have h4 := h2 h3
          have h5 : Lib.bitLenAux f (x / 2) ≠ 0 := by
            intro h6
            rw [h6] at h1
            simp at h1
            omega
          obtain ⟨k, hk⟩ : ∃ k, Lib.bitLenAux f (x / 2) = k + 1 := ⟨Lib.bitLenAux f (x / 2) - 1, by omega⟩
          rw [hk] at h4 ⊢
          have e : 1 + (k + 1) - 1 = k + 1 := by omega
          rw [e, Nat.pow_succ]
          simp at h4
          omega

theorem bitLen_spec (x : Nat) (h : x < 18446744073709551616) : x < 2 ^ (Lib.bitLen x) ∧ (x ≠ 0 → 2 ^ (Lib.bitLen x - 1) ≤ x) :=
  bitLenAux_spec 64 x h

theorem bitLen_le64 (x : Nat) (h : x < 18446744073709551616) : Lib.bitLen x ≤ 64 := Lib.bitLen_le x 64 (Nat.le_refl _) h

/-- d shifted up by 64 less its bit length: the top bit is set, nothing is lost. -/
theorem norm_spec (d : Nat) (h0 : d ≠ 0) (h : d < 18446744073709551616) (s : Nat) (hs : s + Lib.bitLen d = 64) : 9223372036854775808 ≤ d * 2 ^ s ∧ d * 2 ^ s < 18446744073709551616 := by
  obtain ⟨h1, h2⟩ := bitLen_spec d h
  have h3 := h2 h0
  have hl : Lib.bitLen d ≠ 0 := by
    intro e
    rw [e] at h1
    simp at h1
    exact h0 h1
  have e64 : 2 ^ Lib.bitLen d * 2 ^ s = 18446744073709551616 := by
    rw [← Nat.pow_add, Nat.add_comm, hs]
  have e63 : 2 ^ (Lib.bitLen d - 1) * 2 ^ s = 9223372036854775808 := by
    rw [← Nat.pow_add, show Lib.bitLen d - 1 + s = 63 by omega]
  constructor
  · rw [← e63]
    exact Nat.mul_le_mul_right _ h3
  · rw [← e64]
    exact Nat.mul_lt_mul_of_pos_right h1 (Nat.two_pow_pos s)

theorem bitLen_top (d : Nat) (h0 : 9223372036854775808 ≤ d) (h : d < 18446744073709551616) : Lib.bitLen d = 64 := by
  obtain ⟨h1, _⟩ := bitLen_spec d h
  have h3 := bitLen_le64 d h
  by_cases c : Lib.bitLen d = 64
  · exact c
  · have : 2 ^ Lib.bitLen d ≤ 2 ^ 63 := Nat.pow_le_pow_right (by omega) (by omega)
    have : (2 : Nat) ^ 63 = 9223372036854775808 := by decide
    omega
end Go.Proofs.Qxb6003404a.Bit
