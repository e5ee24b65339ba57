/-
  PLAIN MATHEMATICS (no Go in sight): one digit of a long division by a number of two half words whose top bit is set (Knuth's D3), as math/bits.Div64 reckons it.
-/
namespace Go.Proofs.Qxb6003404a.Kn

/-- The digit: q is the quotient of un 2^32 + u1 by y1 2^32 + y0. -/
def IsQ (un u1 y1 y0 q : Nat) : Prop := q * (y1 * 4294967296 + y0) ≤ un * 4294967296 + u1 ∧ un * 4294967296 + u1 < (q + 1) * (y1 * 4294967296 + y0)

/-- At the loop's head: q is not below the digit, r is what is left. -/
def Inv (un u1 y1 y0 q r : Nat) : Prop := q * y1 + r = un ∧ r < 4294967296 ∧ un * 4294967296 + u1 < (q + 1) * (y1 * 4294967296 + y0) ∧ q ≤ 4294967297

theorem expand (q y1 y0 : Nat) : q * (y1 * 4294967296 + y0) = (q * y1) * 4294967296 + q * y0 := by
  rw [Nat.mul_add, Nat.mul_assoc]

theorem start {un u1 y1 y0 : Nat} (h1 : 2147483648 ≤ y1) (h2 : y1 < 4294967296) (h0 : y0 < 4294967296) (hun : un < y1 * 4294967296 + y0) (hu1 : u1 < 4294967296) :
    Inv un u1 y1 y0 (un / y1) (un - un / y1 * y1) := by
  have hpos : 0 < y1 := by omega
  have e : y1 * (un / y1) + un % y1 = un := Nat.div_add_mod un y1
  have hm : un % y1 < y1 := Nat.mod_lt _ hpos
  have ec : un / y1 * y1 = y1 * (un / y1) := Nat.mul_comm _ _
  have hq : un / y1 ≤ 4294967297 := by
    refine Nat.le_of_lt_succ ((Nat.div_lt_iff_lt_mul hpos).2 ?_)
    omega
  refine ⟨by omega, by omega, ?_, hq⟩
  rw [Nat.add_mul, expand]
  omega

theorem step {un u1 y1 y0 q r : Nat} (hi : Inv un u1 y1 y0 q r) (hun : un < y1 * 4294967296 + y0) (hu1 : u1 < 4294967296)
    (h : 4294967296 ≤ q ∨ 4294967296 * r + u1 < q * y0) : 1 ≤ q ∧ (q - 1) * y1 + (r + y1) = un ∧ un * 4294967296 + u1 < (q - 1 + 1) * (y1 * 4294967296 + y0) ∧ q - 1 ≤ 4294967296 := by
  obtain ⟨i1, i2, i3, i4⟩ := hi
  have hq : 1 ≤ q := by
    rcases h with h | h
    · omega
    · by_cases c : q = 0
      · subst c; simp at h
      · omega
  obtain ⟨p, rfl⟩ : ∃ p, q = p + 1 := ⟨q - 1, by omega⟩
  simp only [Nat.add_sub_cancel] at *
  refine ⟨hq, by rw [Nat.add_mul] at i1; omega, ?_, by omega⟩
  rcases h with h | h
  · have : 4294967296 * (y1 * 4294967296 + y0) ≤ (p + 1) * (y1 * 4294967296 + y0) := Nat.mul_le_mul_right _ h
    omega
  · rw [expand]
    omega

theorem done {un u1 y1 y0 q r : Nat} (hi : Inv un u1 y1 y0 q r) (h : q * y0 ≤ 4294967296 * r + u1) : IsQ un u1 y1 y0 q := by
  obtain ⟨i1, i2, i3, i4⟩ := hi
  refine ⟨?_, i3⟩
  rw [expand]
  omega

theorem broke {un u1 y1 y0 q r : Nat} (e : q * y1 + r = un) (hl : un * 4294967296 + u1 < (q + 1) * (y1 * 4294967296 + y0)) (hq : q ≤ 4294967296) (h0 : y0 < 4294967296) (hr : 4294967296 ≤ r) : IsQ un u1 y1 y0 q := by
  refine ⟨?_, hl⟩
  rw [expand]
  have : q * y0 ≤ 4294967296 * 4294967295 := Nat.mul_le_mul hq (by omega)
  omega

theorem IsQ.lt {un u1 y1 y0 q : Nat} (h : IsQ un u1 y1 y0 q) (hun : un < y1 * 4294967296 + y0) (hu1 : u1 < 4294967296) : q < 4294967296 := by
  obtain ⟨h1, _⟩ := h
  by_cases c : q < 4294967296
  · exact c
  · have : 4294967296 * (y1 * 4294967296 + y0) ≤ q * (y1 * 4294967296 + y0) := Nat.mul_le_mul_right _ (by omega)
    omega

/-- The two digits together. -/
theorem both {hi lo y1 y0 q1 q0 u : Nat} (y : Nat) (hy : y1 * 4294967296 + y0 = y) (h1 : IsQ hi (lo / 4294967296) y1 y0 q1) (hu : u = hi * 4294967296 + lo / 4294967296 - q1 * y) (h2 : IsQ u (lo % 4294967296) y1 y0 q0) :
    (q1 * 4294967296 + q0) * y ≤ hi * 18446744073709551616 + lo ∧ hi * 18446744073709551616 + lo < (q1 * 4294967296 + q0 + 1) * y := by
  obtain ⟨a1, a2⟩ := h1
  obtain ⟨b1, b2⟩ := h2
  rw [hy] at a1 a2 b1 b2
  have e : (q1 * 4294967296 + q0) * y = (q1 * y) * 4294967296 + q0 * y := by rw [Nat.add_mul, Nat.mul_right_comm]
  have e' : (q1 * 4294967296 + q0 + 1) * y = (q1 * y) * 4294967296 + q0 * y + y := by rw [Nat.add_mul, e, Nat.one_mul]
  have e2 : (q0 + 1) * y = q0 * y + y := by rw [Nat.add_mul, Nat.one_mul]
  rw [e, e']
  rw [e2] at b2
  omega

theorem whole {hi lo y q1 q0 u r : Nat} (a1 : q1 * y ≤ hi * 4294967296 + lo / 4294967296) (c1 : q0 * y ≤ u * 4294967296 + lo % 4294967296) (hu : u = hi * 4294967296 + lo / 4294967296 - q1 * y)
    (hr : r = u * 4294967296 + lo % 4294967296 - q0 * y) : (q1 * 4294967296 + q0) * y + r = hi * 18446744073709551616 + lo := by
  have e : (q1 * 4294967296 + q0) * y = (q1 * y) * 4294967296 + q0 * y := by rw [Nat.add_mul, Nat.mul_right_comm]
  rw [e]
  generalize q1 * y = A at *
  generalize q0 * y = C at *
  omega
end Go.Proofs.Qxb6003404a.Kn
