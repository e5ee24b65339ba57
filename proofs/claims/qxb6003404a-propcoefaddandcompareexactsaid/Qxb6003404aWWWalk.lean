/-
  THE WALKS of c2AddWW (41), c2SubWW (43), c2MulWW (45): sum, difference and product of words, with what is carried.
-/
import Derived.Test.Qxb6003404aMul
import Derived.Test.Qxb6003404aAddWalk
namespace Go.Proofs.Qxb6003404a
open Go.RowKit

theorem c2AddWW_core (x y c s t : Nat) (b1 b2 : Bool) 
    (e1 : IntKind.u64.wrap ((x : Int) + (y : Int)) = (s : Int)) (e2 : IntKind.u64.wrap ((s : Int) + (c : Int)) = (t : Int)) (t1 : b1 = true ∧ s < x ∨ b1 = false ∧ x ≤ s) (t2 : b2 = true ∧ t < s ∨ b2 = false ∧ s ≤ t) (w : World) :
    Calls Try.prog 41 #[.int .u64 (x : Int), .int .u64 (y : Int), .int .u64 (c : Int)] w fun e w' => e = .returned (.tuple #[.int .u64 (t : Int), .int .u64 ((if b1 then 1 else 0) + (if b2 then 1 else 0))]) ∧ w' = w := by
  rcases t1 with ⟨rfl, t1⟩ | ⟨rfl, t1⟩ <;> rcases t2 with ⟨rfl, t2⟩ | ⟨rfl, t2⟩ <;>
  · go_enter Try.func41, Try.ntmps41
    go_wp2
    go_ret2
    exact ⟨rfl, rfl⟩

theorem c2AddWW_any (x y c : Nat) (hx : x < 18446744073709551616) (hy : y < 18446744073709551616) (hc : c ≤ 1) (w : World) :
    Calls Try.prog 41 #[.int .u64 (x : Int), .int .u64 (y : Int), .int .u64 (c : Int)] w fun e w' => (∃ s co : Nat, IsSum x y c s co ∧ e = .returned (.tuple #[.int .u64 (s : Int), .int .u64 (co : Int)])) ∧ w' = w := by
  by_cases h1 : x + y < 18446744073709551616
  · by_cases h2 : x + y + c < 18446744073709551616
    · refine (c2AddWW_core x y c (x + y) (x + y + c) false false (by rw [IntKind.wrap_u64]; omega) (by rw [IntKind.wrap_u64]; omega) (.inr ⟨rfl, by omega⟩) (.inr ⟨rfl, by omega⟩) w).mono ?_
      rintro e w' ⟨rfl, rfl⟩
      exact ⟨⟨_, 0, ⟨h2, by omega, by omega⟩, rfl⟩, rfl⟩
    · refine (c2AddWW_core x y c (x + y) (x + y + c - 18446744073709551616) false true (by rw [IntKind.wrap_u64]; omega) (by rw [IntKind.wrap_u64]; omega) (.inr ⟨rfl, by omega⟩) (.inl ⟨rfl, by omega⟩) w).mono ?_
      rintro e w' ⟨rfl, rfl⟩
      exact ⟨⟨_, 1, ⟨by omega, by omega, by omega⟩, rfl⟩, rfl⟩
  · refine (c2AddWW_core x y c (x + y - 18446744073709551616) (x + y - 18446744073709551616 + c) true false (by rw [IntKind.wrap_u64]; omega) (by rw [IntKind.wrap_u64]; omega) (.inl ⟨rfl, by omega⟩) (.inr ⟨rfl, by omega⟩) w).mono ?_
    rintro e w' ⟨rfl, rfl⟩
    exact ⟨⟨_, 1, ⟨by omega, by omega, by omega⟩, rfl⟩, rfl⟩

theorem c2AddWW0_any (x y : Nat) (hx : x < 18446744073709551616) (hy : y < 18446744073709551616) (w : World) :
    Calls Try.prog 41 #[.int .u64 (x : Int), .int .u64 (y : Int), .int .u64 0] w fun e w' => (∃ s co : Nat, IsSum x y 0 s co ∧ e = .returned (.tuple #[.int .u64 (s : Int), .int .u64 (co : Int)])) ∧ w' = w :=
  c2AddWW_any x y 0 hx hy (by omega) w

theorem c2SubWW_core (x y c s t : Nat) (b1 b2 : Bool) 
    (o1 : bits .or .u64 0 0 = 0) (o2 : bits .or .u64 0 1 = 1) (o3 : bits .or .u64 1 0 = 1) (o4 : bits .or .u64 1 1 = 1)
    (e1 : IntKind.u64.wrap ((x : Int) - (y : Int)) = (s : Int)) (e2 : IntKind.u64.wrap ((s : Int) - (c : Int)) = (t : Int)) (t1 : b1 = true ∧ x < y ∨ b1 = false ∧ y ≤ x) (t2 : b2 = true ∧ s < c ∨ b2 = false ∧ c ≤ s) (w : World) :
    Calls Try.prog 43 #[.int .u64 (x : Int), .int .u64 (y : Int), .int .u64 (c : Int)] w fun e w' => e = .returned (.tuple #[.int .u64 (t : Int), .int .u64 (if b1 then 1 else if b2 then 1 else 0)]) ∧ w' = w := by
  rcases t1 with ⟨rfl, t1⟩ | ⟨rfl, t1⟩ <;> rcases t2 with ⟨rfl, t2⟩ | ⟨rfl, t2⟩ <;>
  · go_enter Try.func43, Try.ntmps43
    go_wp2
    go_ret2
    exact ⟨rfl, rfl⟩

theorem c2SubWW_any (x y c : Nat) (hx : x < 18446744073709551616) (hy : y < 18446744073709551616) (hc : c ≤ 1) (w : World) :
    Calls Try.prog 43 #[.int .u64 (x : Int), .int .u64 (y : Int), .int .u64 (c : Int)] w fun e w' => (∃ d bo : Nat, IsDiff x y c d bo ∧ e = .returned (.tuple #[.int .u64 (d : Int), .int .u64 (bo : Int)])) ∧ w' = w := by
  have o1 : bits .or .u64 0 0 = 0 := bits_or_u64_nat 0 0 (by omega) (by omega)
  have o2 : bits .or .u64 0 1 = 1 := bits_or_u64_nat 0 1 (by omega) (by omega)
  have o3 : bits .or .u64 1 0 = 1 := bits_or_u64_nat 1 0 (by omega) (by omega)
  have o4 : bits .or .u64 1 1 = 1 := bits_or_u64_nat 1 1 (by omega) (by omega)
  by_cases h1 : x < y
  · refine (c2SubWW_core x y c (x + 18446744073709551616 - y) (x + 18446744073709551616 - y - c) true false o1 o2 o3 o4 (by rw [IntKind.wrap_u64]; omega) (by rw [IntKind.wrap_u64]; omega) (.inl ⟨rfl, by omega⟩) (.inr ⟨rfl, by omega⟩) w).mono ?_
    rintro e w' ⟨rfl, rfl⟩
    exact ⟨⟨_, 1, ⟨by omega, by omega, by omega⟩, rfl⟩, rfl⟩
  · by_cases h2 : x - y < c
    · refine (c2SubWW_core x y c (x - y) (x - y + 18446744073709551616 - c) false true o1 o2 o3 o4 (by rw [IntKind.wrap_u64]; omega) (by rw [IntKind.wrap_u64]; omega) (.inr ⟨rfl, by omega⟩) (.inl ⟨rfl, by omega⟩) w).mono ?_
      rintro e w' ⟨rfl, rfl⟩
      exact ⟨⟨_, 1, ⟨by omega, by omega, by omega⟩, rfl⟩, rfl⟩
    · refine (c2SubWW_core x y c (x - y) (x - y - c) false false o1 o2 o3 o4 (by rw [IntKind.wrap_u64]; omega) (by rw [IntKind.wrap_u64]; omega) (.inr ⟨rfl, by omega⟩) (.inr ⟨rfl, by omega⟩) w).mono ?_
      rintro e w' ⟨rfl, rfl⟩
      exact ⟨⟨_, 0, ⟨by omega, by omega, by omega⟩, rfl⟩, rfl⟩

theorem or_halves (a m : Nat) : bits .or .u64 ((a % 4294967296 : Nat) : Int) ((m % 4294967296 * 4294967296 : Nat) : Int) = ((m % 4294967296 * 4294967296 + a % 4294967296 : Nat) : Int) := by
  rw [bits_or_u64_nat _ _ (by omega) (by omega), Nat.or_comm]
  have h := Nat.two_pow_add_eq_or_of_lt (i := 32) (b := a % 4294967296) (by omega) (m % 4294967296)
  rw [Nat.mul_comm] at h
  rw [← h]
theorem shlM (m : Nat) : IntKind.u64.wrap ((m : Int) * 4294967296) = ((m % 4294967296 * 4294967296 : Nat) : Int) := by
  rw [IntKind.wrap_u64]
  omega

theorem mulWW_sum {A B C D : Nat} (hT : D * 18446744073709551616 + (C + B) * 4294967296 + A ≤ 18446744073709551615 * 18446744073709551615) :
    (D + B / 4294967296 + C / 4294967296 + (A / 4294967296 + B % 4294967296 + C % 4294967296) / 4294967296) * 18446744073709551616 + ((A / 4294967296 + B % 4294967296 + C % 4294967296) % 4294967296 * 4294967296 + A % 4294967296) = D * 18446744073709551616 + (C + B) * 4294967296 + A ∧
      D + B / 4294967296 + C / 4294967296 + (A / 4294967296 + B % 4294967296 + C % 4294967296) / 4294967296 < 18446744073709551616 ∧ (A / 4294967296 + B % 4294967296 + C % 4294967296) % 4294967296 * 4294967296 + A % 4294967296 < 18446744073709551616 := by
  refine ⟨?_, ?_, ?_⟩ <;> omega

theorem mulWW_prod (x y : Nat) : x / 4294967296 * (y / 4294967296) * 18446744073709551616 + (x / 4294967296 * (y % 4294967296) + x % 4294967296 * (y / 4294967296)) * 4294967296 + x % 4294967296 * (y % 4294967296) = x * y := by
  have h := Lib.split_mul (x / 4294967296) (x % 4294967296) (y / 4294967296) (y % 4294967296) 4294967296
  have ex : x / 4294967296 * 4294967296 + x % 4294967296 = x := Nat.div_add_mod' _ _
  have ey : y / 4294967296 * 4294967296 + y % 4294967296 = y := Nat.div_add_mod' _ _
  rw [ex, ey] at h
  exact h.symm

set_option maxHeartbeats 1000000 in
theorem c2MulWW_any (x y : Nat) (hx : x < 18446744073709551616) (hy : y < 18446744073709551616) (w : World) :
    Calls Try.prog 45 #[.int .u64 (x : Int), .int .u64 (y : Int)] w fun e w' => (∃ hi lo : Nat, IsProd x y hi lo ∧ e = .returned (.tuple #[.int .u64 (hi : Int), .int .u64 (lo : Int)])) ∧ w' = w := by
  have bA := Lib.half_mul_le (a := x % 4294967296) (b := y % 4294967296) (by omega) (by omega)
  have bB := Lib.half_mul_le (a := x % 4294967296) (b := y / 4294967296) (by omega) (by omega)
  have bC := Lib.half_mul_le (a := x / 4294967296) (b := y % 4294967296) (by omega) (by omega)
  have bD := Lib.half_mul_le (a := x / 4294967296) (b := y / 4294967296) (by omega) (by omega)
  have hm : x * y ≤ 18446744073709551615 * 18446744073709551615 := Nat.mul_le_mul (by omega) (by omega)
  have hp := mulWW_prod x y
  rw [← hp] at hm
  obtain ⟨r1, r2, r3⟩ := mulWW_sum hm
  have HP : Hid (IsProd x y _ _) := ⟨r2, r3, r1.trans hp⟩
  have cA : x % 4294967296 * (y % 4294967296) < 18446744073709551616 := by omega
  have cB : x % 4294967296 * (y / 4294967296) < 18446744073709551616 := by omega
  have cC : x / 4294967296 * (y % 4294967296) < 18446744073709551616 := by omega
  have cD : x / 4294967296 * (y / 4294967296) < 18446744073709551616 := by omega
  clear hm hp r1 r3
  have mA := Mul.maskN _ cA
  have mB := Mul.maskN _ cB
  have mC := Mul.maskN _ cC
  have mx := Mul.maskN x hx
  have my := Mul.maskN y hy
  have wA := Mul.wrapN _ cA
  have wB := Mul.wrapN _ cB
  have wC := Mul.wrapN _ cC
  have wD := Mul.wrapN _ cD
  have px := Mul.mulN (x % 4294967296) (y % 4294967296)
  have pB := Mul.mulN (x % 4294967296) (y / 4294967296)
  have pC := Mul.mulN (x / 4294967296) (y % 4294967296)
  have pD := Mul.mulN (x / 4294967296) (y / 4294967296)
  have dx := Mul.divN x
  have dy := Mul.divN y
  obtain ⟨A, hA⟩ : ∃ A, x % 4294967296 * (y % 4294967296) = A := ⟨_, rfl⟩
  obtain ⟨B, hB⟩ : ∃ B, x % 4294967296 * (y / 4294967296) = B := ⟨_, rfl⟩
  obtain ⟨C, hC⟩ : ∃ C, x / 4294967296 * (y % 4294967296) = C := ⟨_, rfl⟩
  obtain ⟨D, hD⟩ : ∃ D, x / 4294967296 * (y / 4294967296) = D := ⟨_, rfl⟩
  rw [hA] at mA wA px
  rw [hB] at mB wB pB
  rw [hC] at mC wC pC
  rw [hD] at wD pD
  rw [hA, hB, hC, hD] at r2 HP
  rw [hA] at bA
  rw [hB] at bB
  rw [hC] at bC
  rw [hD] at bD
  obtain ⟨x0, hx0⟩ : ∃ a, x % 4294967296 = a := ⟨_, rfl⟩
  obtain ⟨y0, hy0⟩ : ∃ a, y % 4294967296 = a := ⟨_, rfl⟩
  obtain ⟨x1, hx1⟩ : ∃ a, x / 4294967296 = a := ⟨_, rfl⟩
  obtain ⟨y1, hy1⟩ : ∃ a, y / 4294967296 = a := ⟨_, rfl⟩
  rw [hx0] at mx px pB
  rw [hy0] at my px pC
  rw [hx1] at dx pC pD
  rw [hy1] at dy pB pD
  have b0 : x0 < 4294967296 := by omega
  have b1 : y0 < 4294967296 := by omega
  have b2 : x1 < 4294967296 := by omega
  have b3 : y1 < 4294967296 := by omega
  clear hA hB hC hD hx0 hy0 hx1 hy1 cA cB cC cD
  have dA := Mul.divN A
  have dB := Mul.divN B
  have dC := Mul.divN C
  obtain ⟨A1, hA1⟩ : ∃ a, A / 4294967296 = a := ⟨_, rfl⟩
  obtain ⟨B1, hB1⟩ : ∃ a, B / 4294967296 = a := ⟨_, rfl⟩
  obtain ⟨C1, hC1⟩ : ∃ a, C / 4294967296 = a := ⟨_, rfl⟩
  obtain ⟨B0, hB0⟩ : ∃ a, B % 4294967296 = a := ⟨_, rfl⟩
  obtain ⟨C0, hC0⟩ : ∃ a, C % 4294967296 = a := ⟨_, rfl⟩
  rw [hA1] at dA r2 HP
  rw [hB1] at dB r2 HP
  rw [hC1] at dC r2 HP
  rw [hB0] at mB r2 HP
  rw [hC0] at mC r2 HP
  have b4 : A1 < 4294967296 := by omega
  have b5 : B0 < 4294967296 := by omega
  have b6 : C0 < 4294967296 := by omega
  have b7 : B1 < 4294967296 := by omega
  have b8 : C1 < 4294967296 := by omega
  have s1 : IntKind.u64.wrap ((A1 : Int) + (B0 : Int)) = ((A1 + B0 : Nat) : Int) := by rw [IntKind.wrap_u64]; omega
  have s2 : IntKind.u64.wrap (((A1 + B0 : Nat) : Int) + (C0 : Int)) = ((A1 + B0 + C0 : Nat) : Int) := by rw [IntKind.wrap_u64]; omega
  have s3 := shlM (A1 + B0 + C0)
  have s4 := or_halves A (A1 + B0 + C0)
  have s5 := Mul.divN (A1 + B0 + C0)
  have s6 : IntKind.u64.wrap ((D : Int) + (B1 : Int)) = ((D + B1 : Nat) : Int) := by rw [IntKind.wrap_u64]; omega
  have s7 : IntKind.u64.wrap (((D + B1 : Nat) : Int) + (C1 : Int)) = ((D + B1 + C1 : Nat) : Int) := by rw [IntKind.wrap_u64]; omega
  have s8 : IntKind.u64.wrap (((D + B1 + C1 : Nat) : Int) + (((A1 + B0 + C0) / 4294967296 : Nat) : Int)) = ((D + B1 + C1 + (A1 + B0 + C0) / 4294967296 : Nat) : Int) := by rw [IntKind.wrap_u64]; omega
  clear hA1 hB1 hC1 hB0 hC0
  obtain ⟨m, hm⟩ : ∃ a, A1 + B0 + C0 = a := ⟨_, rfl⟩
  obtain ⟨ab, hab⟩ : ∃ a, A1 + B0 = a := ⟨_, rfl⟩
  rw [hm] at s2 s3 s4 s5 s8 r2 HP
  rw [hab] at s1 s2
  obtain ⟨m1, hm1⟩ : ∃ a, m / 4294967296 = a := ⟨_, rfl⟩
  obtain ⟨m0, hm0⟩ : ∃ a, m % 4294967296 * 4294967296 = a := ⟨_, rfl⟩
  obtain ⟨A0, hA0⟩ : ∃ a, A % 4294967296 = a := ⟨_, rfl⟩
  rw [hm1] at s5 s8 r2 HP
  rw [hm0] at s3 s4 HP
  rw [hA0] at mA s4 HP
  obtain ⟨lo, hlo⟩ : ∃ a, m0 + A0 = a := ⟨_, rfl⟩
  rw [hlo] at s4 HP
  obtain ⟨h1, hh1⟩ : ∃ a, D + B1 + C1 + m1 = a := ⟨_, rfl⟩
  rw [hh1] at s8 HP r2
  obtain ⟨h2, hh2⟩ : ∃ a, D + B1 + C1 = a := ⟨_, rfl⟩
  rw [hh2] at s7 s8
  obtain ⟨h3, hh3⟩ : ∃ a, D + B1 = a := ⟨_, rfl⟩
  rw [hh3] at s6 s7
  have v1 : m < 18446744073709551616 := by omega
  have v2 : m0 < 18446744073709551616 := by omega
  have v3 : h2 < 18446744073709551616 := by omega
  have v4 : h3 < 18446744073709551616 := by omega
  have v5 : ab < 18446744073709551616 := by omega
  have v6 : A0 < 18446744073709551616 := by omega
  have v7 : m1 < 18446744073709551616 := by omega
  clear hm hab hm1 hm0 hA0 hlo hh1 hh2 hh3
  go_enter Try.func45, Try.ntmps45
  go_wp2
  go_ret2
  exact ⟨⟨h1, lo, HP, rfl⟩, rfl⟩
end Go.Proofs.Qxb6003404a
