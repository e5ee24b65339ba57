/-
  PLAIN MATHEMATICS (no Go in sight): how many decimal digits a number below 2^64 has.
-/
import Derived.Lib.BitFns
namespace Go.Proofs.Qxb6003404aDoor.Dig

/-- m is the count of decimal digits of u (1 for zero). -/
def IsDig (u m : Nat) : Prop := 1 ≤ m ∧ (m = 1 ∨ 10 ^ (m - 1) ≤ u) ∧ u < 10 ^ m

theorem isDig_unique {u a b : Nat} (ha : IsDig u a) (hb : IsDig u b) : a = b := by
  obtain ⟨a1, a2, a3⟩ := ha
  obtain ⟨b1, b2, b3⟩ := hb
  have key : ∀ {p q : Nat}, 1 ≤ p → u < 10 ^ p → (q = 1 ∨ 10 ^ (q - 1) ≤ u) → q ≤ p := by
    intro p q hp h1 h2
    rcases h2 with h2 | h2
    · omega
    · have h3 : 10 ^ (q - 1) < 10 ^ p := Nat.lt_of_le_of_lt h2 h1
      have h4 : q - 1 < p := (Nat.pow_lt_pow_iff_right (by omega)).1 h3
      omega
  have := key a1 a3 b2
  have := key b1 b3 a2
  omega

theorem bitLenAux_spec : ∀ (f x : Nat), x < 2 ^ f → x < 2 ^ (Lib.bitLenAux f x) ∧ (x ≠ 0 → 2 ^ (Lib.bitLenAux f x - 1) ≤ x)
  | 0, x, h => by
    have : x = 0 := by simpa using h
    subst this
    simp [Lib.bitLenAux]
  | f + 1, x, h => by
    simp only [Lib.bitLenAux]
    split
    · rename_i h0
      subst h0
      simp
    · rename_i h0
      obtain ⟨h1, h2⟩ := bitLenAux_spec f (x / 2) (by rw [Nat.pow_succ] at h; omega)
      refine ⟨?_, fun _ => ?_⟩
      · rw [Nat.add_comm, Nat.pow_succ]
        omega
      · by_cases h3 : x / 2 = 0
        · rw [h3] at h1 ⊢
          have : Lib.bitLenAux f 0 = 0 := by cases f <;> simp [Lib.bitLenAux]
          rw [this]
          simp
          omega
        · have h4 := h2 h3
          have h5 : Lib.bitLenAux f (x / 2) ≠ 0 := by
            intro h6
            rw [h6] at h1
            simp at h1
            omega
          obtain ⟨k, hk⟩ : ∃ k, Lib.bitLenAux f (x / 2) = k + 1 := ⟨Lib.bitLenAux f (x / 2) - 1, by omega⟩
          rw [hk] at h4 ⊢
          have e : 1 + (k + 1) - 1 = k + 1 := by omega
          rw [e, Nat.pow_succ]
          simp at h4
          omega

theorem bitLen_spec (x : Nat) (h : x < 18446744073709551616) : x < 2 ^ (Lib.bitLen x) ∧ (x ≠ 0 → 2 ^ (Lib.bitLen x - 1) ≤ x) :=
  bitLenAux_spec 64 x h

theorem bitLen_le64 (x : Nat) (h : x < 18446744073709551616) : Lib.bitLen x ≤ 64 := Lib.bitLen_le x 64 (Nat.le_refl _) h

theorem est : ∀ L : Fin 65, 2 ^ L.val ≤ 10 ^ (L.val * 1233 / 4096 + 1) ∧ (1 ≤ L.val * 1233 / 4096 → 10 ^ (L.val * 1233 / 4096 - 1) ≤ 2 ^ (L.val - 1)) ∧ L.val * 1233 / 4096 < 20 := by decide +kernel

/-- What digits64 reckons is the count of digits. -/
theorem isDig_est (u : Nat) (h : u < 18446744073709551616) (n : Nat) (hn : n = Lib.bitLen u * 1233 / 4096) :
    IsDig u (max (if 10 ^ n ≤ u then n + 1 else n) 1) := by
  obtain ⟨h1, h2⟩ := bitLen_spec u h
  have h3 := bitLen_le64 u h
  obtain ⟨e1, e2, e3⟩ := est ⟨Lib.bitLen u, by omega⟩
  simp only at e1 e2 e3
  rw [← hn] at e1 e2 e3
  by_cases c : 10 ^ n ≤ u
  · rw [if_pos c]
    have : max (n + 1) 1 = n + 1 := by omega
    rw [this]
    exact ⟨by omega, .inr (by simpa using c), by omega⟩
  · rw [if_neg c]
    by_cases n0 : n = 0
    · subst n0
      have : u = 0 := by simp at c; omega
      subst this
      exact ⟨by simp, .inl (by simp), by simp⟩
    · have : max n 1 = n := by omega
      rw [this]
      refine ⟨by omega, .inr ?_, by omega⟩
      have hu : u ≠ 0 := by
        intro h0
        subst h0
        simp [Lib.bitLen, Lib.bitLenAux] at hn
        exact n0 hn
      exact Nat.le_trans (e2 (by omega)) (h2 hu)

/-- The loop's step: one digit more. -/
theorem step {u n v : Nat} (hv : v = u / 10 ^ (n - 1)) (hn : 1 ≤ n) (h10 : 10 ≤ v) : v / 10 = u / 10 ^ (n + 1 - 1) ∧ 10 ^ (n + 1 - 1) ≤ u := by
  obtain ⟨k, rfl⟩ : ∃ k, n = k + 1 := ⟨n - 1, by omega⟩
  simp only [Nat.add_sub_cancel] at hv ⊢
  have hp : 0 < 10 ^ k := Nat.pow_pos (by omega)
  refine ⟨?_, ?_⟩
  · rw [hv, Nat.div_div_eq_div_mul, Nat.pow_succ]
  · rw [Nat.pow_succ, Nat.mul_comm]
    exact (Nat.le_div_iff_mul_le hp).1 (hv ▸ h10)

theorem stop {u n v : Nat} (hv : v = u / 10 ^ (n - 1)) (hn : 1 ≤ n) (hl : n = 1 ∨ 10 ^ (n - 1) ≤ u) (h10 : v < 10) : IsDig u n := by
  refine ⟨hn, hl, ?_⟩
  obtain ⟨k, rfl⟩ : ∃ k, n = k + 1 := ⟨n - 1, by omega⟩
  simp only [Nat.add_sub_cancel] at hv
  have hp : 0 < 10 ^ k := Nat.pow_pos (by omega)
  rw [Nat.pow_succ, Nat.mul_comm]
  exact (Nat.div_lt_iff_lt_mul hp).1 (hv ▸ h10)

theorem isDig_le20 {u n : Nat} (h : u < 18446744073709551616) (hl : n = 1 ∨ 10 ^ (n - 1) ≤ u) : n ≤ 20 := by
  rcases hl with hl | hl
  · omega
  · by_cases c : n ≤ 20
    · exact c
    · have : 10 ^ 20 ≤ 10 ^ (n - 1) := Nat.pow_le_pow_right (by omega) (by omega)
      have : (10 : Nat) ^ 20 = 100000000000000000000 := by decide
      omega
end Go.Proofs.Qxb6003404aDoor.Dig
