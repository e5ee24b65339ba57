/-
  PLAIN MATHEMATICS (no Go in sight): Moeller and Granlund's division of two words by one, with the reciprocal of the divisor.
-/
import Derived.Test.Qxb6003404aRecWalk
namespace Go.Proofs.Qxb6003404a.MG

/-- The identity behind it, in whatever base b. -/
theorem ident (b v u1 u0 d q1 q0 : Int) (h : q0 = v * u1 + u1 * b + u0 - q1 * b) :
    b * (u1 * b + u0 - (q1 + 1) * d) = (b * b - v * d - b * d) * u1 + u0 * (b - d) + q0 * d - b * d := by
  subst h
  simp only [Int.mul_add, Int.mul_sub, Int.mul_one, Int.mul_comm, Int.mul_left_comm]
  omega

theorem mul_le {a b c d : Int} (h1 : a ≤ c) (h2 : b ≤ d) (hb : 0 ≤ b) (hc : 0 ≤ c) : a * b ≤ c * d := Int.mul_le_mul h1 h2 hb hc

/-- Where the estimate's remainder lies. -/
theorem bounds (v u1 u0 d q1 q0 : Int) (hd0 : 9223372036854775808 ≤ d) (hd1 : d < 18446744073709551616) (hr0 : v * d + 18446744073709551616 * d ≤ 340282366920938463463374607431768211455)
    (hr1 : 340282366920938463463374607431768211455 < v * d + 18446744073709551616 * d + d) (hu0 : 0 ≤ u0) (hu1 : u0 < 18446744073709551616) (ha0 : 0 ≤ u1) (ha1 : u1 < d) (hq0 : 0 ≤ q0) (hq1 : q0 < 18446744073709551616)
    (h : q1 * 18446744073709551616 + q0 = v * u1 + u1 * 18446744073709551616 + u0) (R : Int) (hR : R = u1 * 18446744073709551616 + u0 - (q1 + 1) * d) :
    -d ≤ R ∧ q0 - 18446744073709551616 < R ∧ (R < 18446744073709551616 - d ∨ R < q0) := by
  have E := ident 18446744073709551616 v u1 u0 d q1 q0 (by omega)
  rw [← hR] at E
  have n1 : 0 ≤ (18446744073709551616 * 18446744073709551616 - v * d - 18446744073709551616 * d) * u1 := Int.mul_nonneg (by omega) ha0
  have n2 : (18446744073709551616 * 18446744073709551616 - v * d - 18446744073709551616 * d) * u1 ≤ d * (d - 1) := mul_le (by omega) (by omega) ha0 (by omega)
  have n3 : 0 ≤ u0 * (18446744073709551616 - d) := Int.mul_nonneg hu0 (by omega)
  have n4 : u0 * (18446744073709551616 - d) ≤ 18446744073709551615 * (18446744073709551616 - d) := mul_le (by omega) (by omega) (by omega) (by omega)
  have n5 : 0 ≤ q0 * d := Int.mul_nonneg hq0 (by omega)
  have n6 : 0 < (18446744073709551616 - d) * (18446744073709551616 - q0) := Int.mul_pos (by omega) (by omega)
  rw [Int.mul_sub, Int.sub_mul, Int.sub_mul, Int.mul_comm d q0] at n6
  rw [Int.mul_sub, Int.mul_one] at n2
  generalize (18446744073709551616 * 18446744073709551616 - v * d - 18446744073709551616 * d) * u1 = A1 at *
  generalize u0 * (18446744073709551616 - d) = A2 at *
  refine ⟨by omega, by omega, ?_⟩
  by_cases c : q0 ≤ 18446744073709551616 - d
  · left
    have m : q0 * d ≤ (18446744073709551616 - d) * d := mul_le c (by omega) (by omega) (by omega)
    rw [Int.sub_mul] at m
    omega
  · right
    have m : (18446744073709551616 - d) * (18446744073709551616 - d) ≤ q0 * (18446744073709551616 - d) := mul_le (by omega) (by omega) (by omega) (by omega)
    rw [Int.mul_sub, Int.sub_mul, Int.sub_mul, Int.mul_sub q0] at m
    omega

theorem lin {A C D lo lo0 u0 P : Nat} (h1 : A + lo0 = P) (h2 : lo + D = lo0 + u0) : A + C + D + lo = P + C + u0 := by omega
theorem q1_eq {hi lo0 c lo v u1 u0 Q1 : Nat} (hQ1 : Q1 = hi + u1 + c) (hp : hi * 18446744073709551616 + lo0 = v * u1) (hs : lo + c * 18446744073709551616 = lo0 + u0) :
    Q1 * 18446744073709551616 + lo = v * u1 + u1 * 18446744073709551616 + u0 := by
  rw [hQ1, Nat.add_mul, Nat.add_mul]
  exact lin hp hs

/-- What the code comes to: four ways. -/
theorem quo_cases (d v u1 u0 hi lo0 c lo qv co : Nat) (hd1 : 9223372036854775808 ≤ d) (hd2 : d < 18446744073709551616) (hrec : IsRec d v) (hu1 : u1 < d) (hu0 : u0 < 18446744073709551616)
    (hp : hi * 18446744073709551616 + lo0 = v * u1) (hs : lo + c * 18446744073709551616 = lo0 + u0) (hlo : lo < 18446744073709551616)
    (hq : qv + co * 18446744073709551616 = hi + (u1 + 1) + c) (hqv : qv < 18446744073709551616) :
    ∃ rm : Nat, rm < 18446744073709551616 ∧ ((u0 : Int) - ((qv : Int) * (d : Int)) % 18446744073709551616) % 18446744073709551616 = (rm : Int) ∧
      ((lo < rm ∧ 1 ≤ qv ∧ rm + d < 18446744073709551616 ∧ qv * d + rm = u1 * 18446744073709551616 + u0 ∧ rm < d) ∨
       (rm ≤ lo ∧ rm < d ∧ qv * d + rm = u1 * 18446744073709551616 + u0) ∨
       (rm ≤ lo ∧ d ≤ rm ∧ qv + 1 < 18446744073709551616 ∧ (qv + 1) * d + (rm - d) = u1 * 18446744073709551616 + u0 ∧ rm - d < d) ∨
       (lo < rm ∧ ∃ qf rf : Nat, rf < d ∧ qf < 18446744073709551616 ∧ ((qv : Int) - 1) % 18446744073709551616 = (qf : Int) ∧ ((rm : Int) + (d : Int)) % 18446744073709551616 = (rf : Int) ∧ qf * d + rf = u1 * 18446744073709551616 + u0)) := by
  obtain ⟨cm, e1, e2, e3⟩ := hrec
  rw [Nat.add_mul, Nat.one_mul] at e3
  have e2' : (v : Int) * (d : Int) + 18446744073709551616 * (d : Int) ≤ 340282366920938463463374607431768211455 := by
    have : ((v * d : Nat) : Int) = (v : Int) * (d : Int) := Int.natCast_mul v d
    omega
  have e3' : 340282366920938463463374607431768211455 < (v : Int) * (d : Int) + 18446744073709551616 * (d : Int) + (d : Int) := by
    have : ((v * d : Nat) : Int) = (v : Int) * (d : Int) := Int.natCast_mul v d
    omega
  clear e1 e2 e3
  obtain ⟨Q1, hQ1⟩ : ∃ Q1, Q1 = hi + u1 + c := ⟨_, rfl⟩
  have hqq : Q1 * 18446744073709551616 + lo = v * u1 + u1 * 18446744073709551616 + u0 := q1_eq hQ1 hp hs
  have hqq' : (Q1 : Int) * 18446744073709551616 + (lo : Int) = (v : Int) * (u1 : Int) + (u1 : Int) * 18446744073709551616 + (u0 : Int) := by
    have hvu : ((v * u1 : Nat) : Int) = (v : Int) * (u1 : Int) := Int.natCast_mul v u1
    omega
  obtain ⟨R, hR⟩ : ∃ R : Int, R = (u1 : Int) * 18446744073709551616 + (u0 : Int) - ((Q1 : Int) + 1) * (d : Int) := ⟨_, rfl⟩
  obtain ⟨b1, b2, b3⟩ := bounds v u1 u0 d Q1 lo (by omega) (by omega) e2' e3' (by omega) (by omega) (by omega) (by omega) (by omega) (by omega) hqq' R hR
  have hN : ((Q1 : Int) + 1) * (d : Int) = ((Q1 * d : Nat) : Int) + (d : Int) := by rw [Int.add_mul, Int.one_mul, Int.natCast_mul]
  rw [hN] at hR
  have hU : u1 * 18446744073709551616 + u0 < d * 18446744073709551616 := by omega
  have hQlt : Q1 < 18446744073709551616 := by
    refine Nat.lt_of_not_le fun h => ?_
    have : 18446744073709551616 * d ≤ Q1 * d := Nat.mul_le_mul_right _ h
    omega
  have hQ2 : ∀ k : Nat, k * d ≤ u1 * 18446744073709551616 + u0 → k < 18446744073709551616 := by
    intro k hk
    refine Nat.lt_of_not_le fun h => ?_
    have : 18446744073709551616 * d ≤ k * d := Nat.mul_le_mul_right _ h
    omega
  have hrem : ((u0 : Int) - ((qv : Int) * (d : Int)) % 18446744073709551616) % 18446744073709551616 = R % 18446744073709551616 := by
    have hm : (qv : Int) * (d : Int) = ((qv * d : Nat) : Int) := (Int.natCast_mul qv d).symm
    rw [hm]
    by_cases hco : co = 0
    · subst hco
      have : qv = Q1 + 1 := by omega
      subst this
      rw [Nat.add_mul, Nat.one_mul]
      omega
    · have h1 : qv = 0 := by omega
      have h2 : Q1 = 18446744073709551615 := by omega
      subst h1
      rw [h2] at hR
      rw [Nat.zero_mul]
      omega
  refine ⟨(R % 18446744073709551616).toNat, by omega, by rw [hrem]; omega, ?_⟩
  by_cases hneg : R < 0
  · -- the estimate was one too many
    right; right; right
    have hrm : (R % 18446744073709551616).toNat = (R + 18446744073709551616).toNat := by omega
    rw [hrm]
    refine ⟨by omega, Q1, (R + d).toNat, by omega, hQlt, by omega, by omega, ?_⟩
    omega
  · have hrm : (R % 18446744073709551616).toNat = R.toNat := by omega
    rw [hrm]
    have hk1 := hQ2 (Q1 + 1) (by rw [Nat.add_mul, Nat.one_mul]; omega)
    have hqv1 : qv = Q1 + 1 := by omega
    subst hqv1
    have hmul : (Q1 + 1) * d = Q1 * d + d := by rw [Nat.add_mul, Nat.one_mul]
    by_cases hc : (lo : Int) < R
    · left
      refine ⟨by omega, by omega, by omega, by rw [hmul]; omega, by omega⟩
    · by_cases hd : R < d
      · right; left
        exact ⟨by omega, by omega, by rw [hmul]; omega⟩
      · right; right; left
        have hmul2 : (Q1 + 1 + 1) * d = Q1 * d + d + d := by rw [Nat.add_mul, Nat.one_mul, hmul]
        have hk2 := hQ2 (Q1 + 1 + 1) (by rw [hmul2]; omega)
        exact ⟨by omega, by omega, by omega, by rw [hmul2]; omega, by omega⟩
end Go.Proofs.Qxb6003404a.MG
