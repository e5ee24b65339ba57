/-
  THE WALKS of abs64 (49), zzAbs64 (7), signed (48), mulSmall (32), ZZmulSmall (8), addSmall (33), ZZaddSmall (9), PropMulSmallAddSmallDetectOverflow (3).
-/
import Derived.Test.Qxb6003404aMul
namespace Go.Proofs.Qxb6003404a
open Go.RowKit

theorem ret_u64 {a b : Int} (h : a = b) : Ending.returned (.int .u64 a) = .returned (.int .u64 b) := by rw [h]

theorem abs64_any (x : Int) (h0 : -9223372036854775808 ≤ x) (h1 : x ≤ 9223372036854775807) (w : World) :
    Calls Try.prog 49 #[.int .i64 x] w fun e w' => e = .returned (.int .u64 (x.natAbs : Int)) ∧ w' = w := by
  by_cases hx : x < 0
  · go_enter Try.func49, Try.ntmps49
    go_wp2
    go_ret
    refine ⟨ret_u64 ?_, rfl⟩
    simp only [IntKind.wrap_u64, wrap64]
    omega
  · go_enter Try.func49, Try.ntmps49
    go_wp2
    go_ret
    refine ⟨ret_u64 ?_, rfl⟩
    omega

theorem zzAbs64_any (x : Int) (h0 : -9223372036854775808 ≤ x) (h1 : x ≤ 9223372036854775807) (w : World) :
    Calls Try.prog 7 #[.int .i64 x] w fun e w' => e = .returned (.int .u64 (x.natAbs : Int)) ∧ w' = w := by
  by_cases hx : x < 0
  · go_enter Try.func7, Try.ntmps7
    go_wp2
    go_ret
    refine ⟨ret_u64 ?_, rfl⟩
    simp only [IntKind.wrap_u64]
    omega
  · go_enter Try.func7, Try.ntmps7
    go_wp2
    go_ret
    refine ⟨ret_u64 ?_, rfl⟩
    omega

theorem ret_pair {a b : Int} {c : Bool} (h : a = b) : Ending.returned (.tuple #[.int .i64 a, .bool c]) = .returned (.tuple #[.int .i64 b, .bool c]) := by rw [h]

theorem IsProd.big {x y hi lo : Nat} (hp : IsProd x y hi lo) (h : Hid (9223372036854775807 < x * y)) : 1 ≤ hi ∨ 9223372036854775807 < lo := by
  obtain ⟨_, _, h3⟩ := hp
  have := h.out
  omega
theorem IsProd.small {x y hi lo : Nat} (hp : IsProd x y hi lo) (h : x * y ≤ 9223372036854775807) : hi = 0 ∧ lo = x * y := by
  obtain ⟨_, _, h3⟩ := hp
  omega
theorem IsProd.lt {x y hi lo : Nat} (hp : IsProd x y hi lo) : hi < 18446744073709551616 ∧ lo < 18446744073709551616 := ⟨hp.1, hp.2.1⟩

theorem signed_no (neg : Bool) (x y : Nat) (hx : x < 18446744073709551616) (hy : y < 18446744073709551616) (h : Hid (9223372036854775807 < x * y)) (w : World) :
    Calls Try.prog 48 #[.bool neg, .int .u64 x, .int .u64 y] w fun e w' => e = .returned (.tuple #[.int .i64 0, .bool false]) ∧ w' = w := by
  go_enter Try.func48, Try.ntmps48
  go_wp2_with (go_at_call 65; refine (mul64_any x y hx hy _).mono ?_; rintro e w' ⟨⟨hi, lo, hp, rfl⟩, rfl⟩; have hz := hp.big h; have hq := hp.lt)
  all_goals (go_ret2; exact ⟨rfl, rfl⟩)

/-- The product fits: 'p' is it, 'r' is what comes back. -/
theorem signed_yes (neg : Bool) (x y p : Nat) (r : Int) (hx : x < 18446744073709551616) (hy : y < 18446744073709551616) (hp : Hid (x * y = p)) (hm : p ≤ 9223372036854775807)
    (hr : Hid ((if neg = true then -(p : Int) else p) = r)) (w : World) :
    Calls Try.prog 48 #[.bool neg, .int .u64 x, .int .u64 y] w fun e w' => e = .returned (.tuple #[.int .i64 r, .bool true]) ∧ w' = w := by
  have hr' := hr.out
  subst hr'
  clear hr
  cases neg
  all_goals
    go_enter Try.func48, Try.ntmps48
    go_wp2_with (go_at_call 65; refine (mul64_any x y hx hy _).mono ?_; rintro e w' ⟨⟨hi, lo, hpr, rfl⟩, rfl⟩; have hz := hpr.small (by rw [hp.out]; exact hm); rw [hp.out] at hz; obtain ⟨rfl, rfl⟩ := hz)
    all_goals (go_ret2; exact ⟨rfl, rfl⟩)

theorem sign_mul (x y : Int) : (if (decide (x < 0) != decide (y < 0)) = true then -((x.natAbs * y.natAbs : Nat) : Int) else ((x.natAbs * y.natAbs : Nat) : Int)) = x * y := by
  rw [Int.natCast_mul]
  by_cases hx : x < 0 <;> by_cases hy : y < 0
  · have e1 : (x.natAbs : Int) = -x := by omega
    have e2 : (y.natAbs : Int) = -y := by omega
    simp [hx, hy, e1, e2, Int.neg_mul_neg]
  · have e1 : (x.natAbs : Int) = -x := by omega
    have e2 : (y.natAbs : Int) = y := by omega
    simp [hx, hy, e1, e2, Int.neg_mul]
  · have e1 : (x.natAbs : Int) = x := by omega
    have e2 : (y.natAbs : Int) = -y := by omega
    simp [hx, hy, e1, e2, Int.mul_neg]
  · have e1 : (x.natAbs : Int) = x := by omega
    have e2 : (y.natAbs : Int) = y := by omega
    simp [hx, hy, e1, e2]

theorem mulSmall_yes (x y : Int) (hx0 : -9223372036854775808 ≤ x) (hx1 : x ≤ 9223372036854775807) (hy0 : -9223372036854775808 ≤ y) (hy1 : y ≤ 9223372036854775807)
    (h : Hid (x.natAbs * y.natAbs ≤ 9223372036854775807)) (w : World) :
    Calls Try.prog 32 #[.int .i64 x, .int .i64 y] w fun e w' => e = .returned (.tuple #[.int .i64 (x * y), .bool true]) ∧ w' = w := by
  have c48 := fun w => signed_yes (decide (x < 0) != decide (y < 0)) x.natAbs y.natAbs _ (x * y) (by omega) (by omega) rfl h.out (sign_mul x y) w
  have C48 : Hid _ := c48
  clear c48
  go_enter Try.func32, Try.ntmps32
  go_wp2_with (first | (go_at_call 49; refine (abs64_any _ (by assumption) (by assumption) _).mono ?_; rintro e w' ⟨rfl, rfl⟩) | (go_at_call 48; refine (C48.out _).mono ?_; rintro e w' ⟨rfl, rfl⟩))
  go_ret2
  exact ⟨rfl, rfl⟩

theorem mulSmall_no (x y : Int) (hx0 : -9223372036854775808 ≤ x) (hx1 : x ≤ 9223372036854775807) (hy0 : -9223372036854775808 ≤ y) (hy1 : y ≤ 9223372036854775807)
    (h : Hid (9223372036854775807 < x.natAbs * y.natAbs)) (w : World) :
    Calls Try.prog 32 #[.int .i64 x, .int .i64 y] w fun e w' => e = .returned (.tuple #[.int .i64 0, .bool false]) ∧ w' = w := by
  have c48 := fun w => signed_no (decide (x < 0) != decide (y < 0)) x.natAbs y.natAbs (by omega) (by omega) h w
  have C48 : Hid _ := c48
  clear c48
  go_enter Try.func32, Try.ntmps32
  go_wp2_with (first | (go_at_call 49; refine (abs64_any _ (by assumption) (by assumption) _).mono ?_; rintro e w' ⟨rfl, rfl⟩) | (go_at_call 48; refine (C48.out _).mono ?_; rintro e w' ⟨rfl, rfl⟩))
  go_ret2
  exact ⟨rfl, rfl⟩

theorem addSmall_yes (x y : Int) (hx0 : -9223372036854775808 ≤ x) (hx1 : x ≤ 9223372036854775807) (hy0 : -9223372036854775808 ≤ y) (hy1 : y ≤ 9223372036854775807)
    (h0 : -9223372036854775808 < x + y) (h1 : x + y ≤ 9223372036854775807) (w : World) :
    Calls Try.prog 33 #[.int .i64 x, .int .i64 y] w fun e w' => e = .returned (.tuple #[.int .i64 (x + y), .bool true]) ∧ w' = w := by
  by_cases a : 0 ≤ x <;> by_cases b : 0 ≤ y <;> by_cases c : 0 ≤ x + y <;> try omega
  all_goals
    go_enter Try.func33, Try.ntmps33
    go_wp2
    go_ret2
    exact ⟨rfl, rfl⟩

theorem addSmall_no (x y : Int) (hx0 : -9223372036854775808 ≤ x) (hx1 : x ≤ 9223372036854775807) (hy0 : -9223372036854775808 ≤ y) (hy1 : y ≤ 9223372036854775807)
    (h : x + y ≤ -9223372036854775808 ∨ 9223372036854775807 < x + y) (w : World) :
    Calls Try.prog 33 #[.int .i64 x, .int .i64 y] w fun e w' => e = .returned (.tuple #[.int .i64 0, .bool false]) ∧ w' = w := by
  by_cases c : 9223372036854775807 < x + y
  · have a : 0 ≤ x := by omega
    have b : 0 ≤ y := by omega
    have hs : wrap64 (x + y) < 0 := by unfold wrap64; omega
    clear h
    go_enter Try.func33, Try.ntmps33
    go_wp2
    go_ret2
    exact ⟨rfl, rfl⟩
  · by_cases d : x + y < -9223372036854775808
    · have a : x < 0 := by omega
      have b : y < 0 := by omega
      have hs : 0 ≤ wrap64 (x + y) := by unfold wrap64; omega
      clear h
      go_enter Try.func33, Try.ntmps33
      go_wp2
      go_ret2
      exact ⟨rfl, rfl⟩
    · have e0 : -9223372036854775808 ≤ x + y := by omega
      have e1 : x + y ≤ -9223372036854775808 := by omega
      have e2 : (x + y == -9223372036854775808) = true := by simp; omega
      have e3 : x + y < 0 := by omega
      clear h c d
      by_cases a : 0 ≤ x <;> by_cases b : 0 ≤ y <;> try omega
      all_goals
        go_enter Try.func33, Try.ntmps33
        go_wp2
        go_ret2
        exact ⟨rfl, rfl⟩

theorem quo_fits (a b : Nat) (hb : 0 < b) : a ≤ 9223372036854775807 / b ↔ a * b ≤ 9223372036854775807 := Nat.le_div_iff_mul_le hb

theorem zzmul_yes (x y : Int) (hx0 : -9223372036854775808 ≤ x) (hx1 : x ≤ 9223372036854775807) (hy0 : -9223372036854775808 ≤ y) (hy1 : y ≤ 9223372036854775807)
    (h : Hid (x.natAbs * y.natAbs ≤ 9223372036854775807)) (w : World) :
    Calls Try.prog 8 #[.int .i64 x, .int .i64 y] w fun e w' => e = .returned (.tuple #[.int .i64 (x * y), .bool true]) ∧ w' = w := by
  go_enter Try.func8, Try.ntmps8
  go_wp2_with (go_at_call 32; refine (mulSmall_yes x y hx0 hx1 hy0 hy1 h _).mono ?_; rintro e w' ⟨rfl, rfl⟩)
  go_ret2
  exact ⟨rfl, rfl⟩
theorem zzmul_no (x y : Int) (hx0 : -9223372036854775808 ≤ x) (hx1 : x ≤ 9223372036854775807) (hy0 : -9223372036854775808 ≤ y) (hy1 : y ≤ 9223372036854775807)
    (h : Hid (9223372036854775807 < x.natAbs * y.natAbs)) (w : World) :
    Calls Try.prog 8 #[.int .i64 x, .int .i64 y] w fun e w' => e = .returned (.tuple #[.int .i64 0, .bool false]) ∧ w' = w := by
  go_enter Try.func8, Try.ntmps8
  go_wp2_with (go_at_call 32; refine (mulSmall_no x y hx0 hx1 hy0 hy1 h _).mono ?_; rintro e w' ⟨rfl, rfl⟩)
  go_ret2
  exact ⟨rfl, rfl⟩
theorem zzadd_yes (x y : Int) (hx0 : -9223372036854775808 ≤ x) (hx1 : x ≤ 9223372036854775807) (hy0 : -9223372036854775808 ≤ y) (hy1 : y ≤ 9223372036854775807)
    (h0 : -9223372036854775808 < x + y) (h1 : x + y ≤ 9223372036854775807) (w : World) :
    Calls Try.prog 9 #[.int .i64 x, .int .i64 y] w fun e w' => e = .returned (.tuple #[.int .i64 (x + y), .bool true]) ∧ w' = w := by
  go_enter Try.func9, Try.ntmps9
  go_wp2_with (go_at_call 33; refine (addSmall_yes x y hx0 hx1 hy0 hy1 h0 h1 _).mono ?_; rintro e w' ⟨rfl, rfl⟩)
  go_ret2
  exact ⟨rfl, rfl⟩
theorem zzadd_no (x y : Int) (hx0 : -9223372036854775808 ≤ x) (hx1 : x ≤ 9223372036854775807) (hy0 : -9223372036854775808 ≤ y) (hy1 : y ≤ 9223372036854775807)
    (h : x + y ≤ -9223372036854775808 ∨ 9223372036854775807 < x + y) (w : World) :
    Calls Try.prog 9 #[.int .i64 x, .int .i64 y] w fun e w' => e = .returned (.tuple #[.int .i64 0, .bool false]) ∧ w' = w := by
  go_enter Try.func9, Try.ntmps9
  go_wp2_with (go_at_call 33; refine (addSmall_no x y hx0 hx1 hy0 hy1 h _).mono ?_; rintro e w' ⟨rfl, rfl⟩)
  go_ret2
  exact ⟨rfl, rfl⟩

end Go.Proofs.Qxb6003404a
