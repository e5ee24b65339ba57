/-
  math/bits.Mul64 (65) and Mul (64) walked at this dump: the 128-bit product, as two words 'hi', 'lo' with hi 2^64 + lo = x y.
-/
import Derived.Test.Qxb6003404aRows
import Derived.WalkKit
import Derived.WalkSpells
import Derived.Lib.Mul64
import Derived.Laws.Bits64b
namespace Go.Proofs.Qxb6003404a
open Go.RowKit

namespace Mul
theorem maskN (a : Nat) (ha : a < 18446744073709551616) : bits .and .u64 (a : Int) 4294967295 = ((a % 4294967296 : Nat) : Int) := by
  have h := bits_and_u64_nat a 4294967295 ha (by omega)
  have e : a &&& 4294967295 = a % 4294967296 := Nat.and_two_pow_sub_one_eq_mod a 32
  rw [e] at h
  exact h
theorem divN (a : Nat) : (a : Int) / 4294967296 = ((a / 4294967296 : Nat) : Int) := by omega
theorem mulN (a b : Nat) : (a : Int) * (b : Int) = ((a * b : Nat) : Int) := (Int.natCast_mul a b).symm
theorem addN (a b : Nat) : (a : Int) + (b : Int) = ((a + b : Nat) : Int) := (Int.natCast_add a b).symm
theorem wrapN (a : Nat) (ha : a < 18446744073709551616) : IntKind.u64.wrap (a : Int) = (a : Int) := by rw [IntKind.wrap_u64]; omega
theorem wrapM (a : Nat) : IntKind.u64.wrap (a : Int) = ((a % 18446744073709551616 : Nat) : Int) := by rw [IntKind.wrap_u64]; omega
end Mul

set_option maxHeartbeats 1000000 in
theorem mul64_raw (x y : Nat) (hx : x < 18446744073709551616) (hy : y < 18446744073709551616) (w : World) :
    Calls Try.prog 65 #[.int .u64 x, .int .u64 y] w fun e w' => e = .returned (.tuple #[.int .u64 ((x * y / 18446744073709551616 : Nat) : Int), .int .u64 ((x * y % 18446744073709551616 : Nat) : Int)]) ∧ w' = w := by
  obtain ⟨bd, bt, bw, hhi⟩ := Lib.mul64_hi x y hx hy
  have ba := Lib.half_mul_le (a := x / 4294967296) (b := y / 4294967296) (by omega) (by omega)
  have bb := Lib.half_mul_le (a := x / 4294967296) (b := y % 4294967296) (by omega) (by omega)
  have bc := Lib.half_mul_le (a := x % 4294967296) (b := y / 4294967296) (by omega) (by omega)
  have ba' : x / 4294967296 * (y / 4294967296) < 18446744073709551616 := by omega
  have bb' : x / 4294967296 * (y % 4294967296) < 18446744073709551616 := by omega
  have bc' : x % 4294967296 * (y / 4294967296) < 18446744073709551616 := by omega
  have bh1 : x / 4294967296 * (y / 4294967296) + (x / 4294967296 * (y % 4294967296) + x % 4294967296 * (y % 4294967296) / 4294967296) / 4294967296 < 18446744073709551616 := by omega
  have bh : x / 4294967296 * (y / 4294967296) + (x / 4294967296 * (y % 4294967296) + x % 4294967296 * (y % 4294967296) / 4294967296) / 4294967296 + ((x / 4294967296 * (y % 4294967296) + x % 4294967296 * (y % 4294967296) / 4294967296) % 4294967296 + x % 4294967296 * (y / 4294967296)) / 4294967296 < 18446744073709551616 := by omega
  go_enter Try.func65, Try.ntmps65
  go_wp2
  simp only [Mul.maskN x hx, Mul.maskN y hy, Mul.divN, Mul.mulN, Mul.addN, Mul.wrapN _ bd, Mul.wrapN _ bb', Mul.wrapN _ bt, Mul.maskN _ bt, Mul.wrapN _ bc', Mul.wrapN _ bw, Mul.wrapN _ ba', Mul.wrapN _ bh1, Mul.wrapN _ bh, Mul.wrapM (x * y)]
  rw [hhi]
  go_ret2
  exact ⟨rfl, rfl⟩

/-- The two words of a product. -/
def IsProd (x y hi lo : Nat) : Prop := hi < 18446744073709551616 ∧ lo < 18446744073709551616 ∧ hi * 18446744073709551616 + lo = x * y

theorem isProd_divmod (x y : Nat) (hx : x < 18446744073709551616) (hy : y < 18446744073709551616) : IsProd x y (x * y / 18446744073709551616) (x * y % 18446744073709551616) := by
  have h1 : x * y ≤ 18446744073709551615 * 18446744073709551615 := Nat.mul_le_mul (by omega) (by omega)
  refine ⟨?_, ?_, ?_⟩ <;> omega

theorem mul64_any (x y : Nat) (hx : x < 18446744073709551616) (hy : y < 18446744073709551616) (w : World) :
    Calls Try.prog 65 #[.int .u64 x, .int .u64 y] w fun e w' => (∃ hi lo : Nat, IsProd x y hi lo ∧ e = .returned (.tuple #[.int .u64 (hi : Int), .int .u64 (lo : Int)])) ∧ w' = w :=
  (mul64_raw x y hx hy w).mono fun _ _ ⟨he, hw⟩ => ⟨⟨_, _, isProd_divmod x y hx hy, he⟩, hw⟩

theorem mul_any (x y : Nat) (hx : x < 18446744073709551616) (hy : y < 18446744073709551616) (w : World) :
    Calls Try.prog 64 #[.int .u64 x, .int .u64 y] w fun e w' => (∃ hi lo : Nat, IsProd x y hi lo ∧ e = .returned (.tuple #[.int .u64 (hi : Int), .int .u64 (lo : Int)])) ∧ w' = w := by
  go_enter Try.func64, Try.ntmps64
  go_wp2_with (go_at_call 65; refine (mul64_any x y hx hy _).mono ?_; rintro e w' ⟨⟨hi, lo, hp, rfl⟩, rfl⟩; obtain ⟨hp1, hp2, hp3⟩ := hp; have HP : Hid (hi * 18446744073709551616 + lo = x * y) := hp3; clear hp3)
  go_ret2
  exact ⟨⟨hi, lo, ⟨hp1, hp2, HP.out⟩, rfl⟩, rfl⟩
end Go.Proofs.Qxb6003404a
